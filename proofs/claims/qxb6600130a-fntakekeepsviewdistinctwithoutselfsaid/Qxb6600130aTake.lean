/-
  (*View).Take: it leaves in the view's row what 'takeF' says.
-/
import Derived.Test.Qxb6600130aTakeBase
namespace Go.Proofs.Qxb6600130a
open Go.RowKit
set_option linter.unusedVariables false

set_option maxHeartbeats 8000000 in
set_option maxRecDepth 100000 in
theorem take_some (V g n m r : Nat) (self : Int) (aE aP aH aR : Option Addr) (N P H E R : List Int) (w : World) (hs1 : -2147483648 ≤ self) (hs2 : self ≤ 2147483647)
    (v0 : w.cell? ⟨V, 0, none⟩ = some (.int .i32 self)) (v2 : w.cell? ⟨V, 2, none⟩ = some (.slice (some ⟨g, 0, none⟩) n n)) (hV : V ≠ g) (hN : Row w g N) (ln : Hid (N.length = n))
    (sE : Off w g aE m E) (sP : Off w g aP m P) (sH : Off w g aH m H) (sR : Off w g aR r R) (hm : 0 < m) (bn : n ≤ 4096) (bm : m ≤ 4096) (br : r ≤ 4096) (hp : Hid (∀ k, k < m → 0 ≤ P.getD k 0 ∧ P.getD k 0 < n)) :
    Calls Try.prog 25 #[.pointer (some ⟨V, 0, none⟩), .agg #[.slice aE m m, .slice aP m m, .slice aH m m], .slice aR r r] w fun e w' => Took w g (Pl.takeF self R N (spots P H E m)) e w' := by
  have hgw := hN.lt
  rcases sE.cells with hh | ⟨bE, oE, nE, rfl, cE⟩
  · omega
  rcases sP.cells with hh | ⟨bP, oP, nP, rfl, cP⟩
  · omega
  rcases sH.cells with hh | ⟨bH, oH, nH, rfl, cH⟩
  · omega
  have TD : Hid (∀ k, k < m → (spots P H E m).drop k = ((P.getD k 0).toNat, H.getD k 0, E.getD k 0) :: (spots P H E m).drop (k + 1)) := fun k hk => spots_drop P H E m k hk
  have TE : Hid (∀ k, ¬ k < m → (spots P H E m).drop k = []) := fun k hk => spots_end P H E m k hk
  generalize spots P H E m = T at TD TE ⊢
  go_enter Try.func25, Try.ntmps25
  go_wp2
  obtain ⟨W, hW⟩ : ∃ W, W = w.alloc (.cells #[.slice (some ⟨bE, oE, none⟩) m m, .slice (some ⟨bP, oP, none⟩) m m, .slice (some ⟨bH, oH, none⟩) m m] 42) := ⟨_, rfl⟩
  have B0 : Below w.heap.size w W := by rw [hW]; exact (Below.refl _ _).alloc (Nat.le_refl _) _
  have X0 : W.cell? ⟨w.heap.size, 0, none⟩ = some (.slice (some ⟨bE, oE, none⟩) m m) := by rw [hW]; simp
  have X1 : W.cell? ⟨w.heap.size, 1, none⟩ = some (.slice (some ⟨bP, oP, none⟩) m m) := by rw [hW]; simp
  have X2 : W.cell? ⟨w.heap.size, 2, none⟩ = some (.slice (some ⟨bH, oH, none⟩) m m) := by rw [hW]; simp
  rw [← hW]
  clear hW
  have u0 := cell_later B0 v0
  have u2 := cell_later B0 v2
  have hN' := hN.below B0 hgw
  have O0 : Only g w W := Only.of_below B0
  have CE : Hid (∀ i, i < m → W.cell? ⟨bE, oE + i, none⟩ = some (.int .i64 (E.getD i 0))) := fun i hi => cell_later B0 (cE i hi)
  have CP : Hid (∀ i, i < m → W.cell? ⟨bP, oP + i, none⟩ = some (.int .i64 (P.getD i 0))) := fun i hi => cell_later B0 (cP i hi)
  have CH : Hid (∀ i, i < m → W.cell? ⟨bH, oH + i, none⟩ = some (.int .i64 (H.getD i 0))) := fun i hi => cell_later B0 (cH i hi)
  have SR := sR.only O0
  obtain ⟨S, HS⟩ : ∃ S, Hid (w.heap.size = S) := ⟨_, rfl⟩
  have hS : S ≠ g := by rw [← HS.out]; omega
  rw [HS.out] at X0 X1 X2 ⊢
  clear v0 v2 hN sE sP sH sR cE cP cH B0 hgw
  go_loopw [6, 12] (fun vn vi wr => ∃ (t k : Nat) (M : List Int), t ≤ r ∧ k ≤ m ∧ vi = .int .i64 t ∧ vn = .int .i64 k ∧ Row wr g M ∧ Only g W wr ∧ Hid (M.length = n) ∧ Hid (Pl.takeF self (R.drop t) M (T.drop k) = Pl.takeF self R N T)) (fun _ vi _ => r - (intOf vi).toNat)
  case atStart => exact ⟨0, 0, N, Nat.zero_le _, Nat.zero_le _, rfl, rfl, hN', Only.refl _ _, ln, rfl⟩
  case round =>
    obtain ⟨t, k, M, ht, hk, rfl, rfl, hM, hO, LM, HF⟩ := hrel
    by_cases hlt : t < r
    · rcases SR.cells with hh | ⟨bR, oR, nR, rfl, cR⟩
      · omega
      obtain ⟨x, Hx⟩ : ∃ z, Hid (R.getD t 0 = z) := ⟨_, rfl⟩
      have r1 : wr.cell? ⟨bR, oR + t, none⟩ = some (.int .i64 x) := by have := hO.cell (by exact nR) (cR t hlt); rw [Hx.out] at this; exact this
      have HR : Hid (R.drop t = x :: R.drop (t + 1)) := by have := Pl.drop_cons R t (by rw [SR.len]; exact hlt); rw [Hx.out] at this; exact this
      have y0 := hO.cell (by exact hV) u0
      have y2 := hO.cell (by exact hV) u2
      have z0 := hO.cell (by exact hS) X0
      have z1 := hO.cell (by exact hS) X1
      have z2 := hO.cell (by exact hS) X2
      clear cR
      go_wp2
      go_loopw [6] (fun vn ws => ∃ k' q : Nat, k' ≤ m ∧ vn = .int .i64 k' ∧ Hid (Pl.adv M (T.drop k') = Pl.adv M (T.drop k)) ∧ ws = wr.drewN q) (fun vn _ => m - (intOf vn).toNat)
      case atStart => exact ⟨k, 0, hk, rfl, rfl, rfl⟩
      case round =>
        clear hk
        obtain ⟨k', q, hk', rfl, HA, rfl⟩ := hrel
        by_cases hkm : k' < m
        · obtain ⟨pz, Hpz⟩ : ∃ z, Hid (P.getD k' 0 = z) := ⟨_, rfl⟩
          have hb := hp.out k' hkm
          rw [Hpz.out] at hb
          obtain ⟨p, rfl⟩ := Int.eq_ofNat_of_zero_le hb.1
          have hpn : p < n := by omega
          clear hb
          obtain ⟨h, Hh⟩ : ∃ z, Hid (H.getD k' 0 = z) := ⟨_, rfl⟩
          obtain ⟨z, Hz⟩ : ∃ z, Hid (M.getD p 0 = z) := ⟨_, rfl⟩
          obtain ⟨ez, He⟩ : ∃ z, Hid (E.getD k' 0 = z) := ⟨_, rfl⟩
          have l1 : wr.cell? ⟨bP, oP + k', none⟩ = some (.int .i64 p) := by have := hO.cell (by exact nP) (CP.out k' hkm); rw [Hpz.out] at this; exact this
          have l2 : wr.cell? ⟨bH, oH + k', none⟩ = some (.int .i64 h) := by have := hO.cell (by exact nH) (CH.out k' hkm); rw [Hh.out] at this; exact this
          have l3 : wr.cell? ⟨bE, oE + k', none⟩ = some (.int .i64 ez) := by have := hO.cell (by exact nE) (CE.out k' hkm); rw [He.out] at this; exact this
          have l4 : wr.cell? ⟨g, p, none⟩ = some (.int .i64 z) := by have := hM.cell p (by rw [LM.out]; exact hpn); rw [Hz.out] at this; exact this
          have l5 : wr.frozen? ⟨g, p, none⟩ = false := hM.frozen p
          have HD : Hid (T.drop k' = (p, h, ez) :: T.drop (k' + 1)) := by have := TD.out k' hkm; rw [Hpz.out, Hh.out, He.out] at this; exact this
          have i1 : (k' : Int) < (m : Int) := by omega
          have i2 : (p : Int) < (n : Int) := by omega
          by_cases hzh : z = h
          · subst hzh
            have HA2 : Hid (Pl.adv M (T.drop k) = (p, z, ez) :: T.drop (k' + 1)) := by
              have := HA.out
              rw [HD.out, Pl.adv_stay M (p, z, ez) _ Hz.out] at this
              exact this.symm
            have i3 : ((k' : Int) == (m : Int)) = false := beq_eq_false_iff_ne.2 (by omega)
            clear HA
            by_cases hxs : x = self
            · have j1 : (x != self) = false := by simp [hxs]
              have HN : Hid (Pl.takeF self (R.drop (t + 1)) M (T.drop k') = Pl.takeF self R N T) := by
                have := HF.out
                rw [HR.out, Pl.takeF_pass self x _ M _ _ _ HA2.out (goes_self self x M _ hxs), ← HD.out] at this
                exact this
              clear hxs
              by_cases hxh : x = z
              · have j2 : (x == z) = true := by simp [hxh]
                clear hxh
                by_cases hxe : x = ez
                · have j3 : (x != ez) = false := by simp [hxe]
                  clear hxe
                  go_wp2
                  go_quiet (fail)
                  go_wp2
                  go_roundw
                  case rel => exact ⟨t + 1, k', M, by omega, hk', by go_num, rfl, hM.drewN _, hO.drewN _, LM, HN⟩
                  case measure => simp [intOf]; omega
                · have j3 : (x != ez) = true := by rw [bne_iff_ne]; exact hxe
                  clear hxe
                  go_wp2
                  go_quiet (fail)
                  go_wp2
                  go_roundw
                  case rel => exact ⟨t + 1, k', M, by omega, hk', by go_num, rfl, hM.drewN _, hO.drewN _, LM, HN⟩
                  case measure => simp [intOf]; omega
              · have j2 : (x == z) = false := beq_eq_false_iff_ne.2 hxh
                clear hxh
                go_wp2
                go_quiet (fail)
                go_wp2
                go_roundw
                case rel => exact ⟨t + 1, k', M, by omega, hk', by go_num, rfl, hM.drewN _, hO.drewN _, LM, HN⟩
                case measure => simp [intOf]; omega
            · have j1 : (x != self) = true := by rw [bne_iff_ne]; exact hxs
              by_cases hback : x = z ∧ x ≠ ez
              · have j2 : (x == z) = true := by simp [hback.1]
                have j3 : (x != ez) = true := by rw [bne_iff_ne]; exact hback.2
                have HN : Hid (Pl.takeF self (R.drop (t + 1)) (M.set p x) (T.drop (k' + 1)) = Pl.takeF self R N T) := by
                  have := HF.out
                  rw [HR.out, Pl.takeF_put self x _ M _ _ _ HA2.out (goes_back self x M p z ez hxs hback.1 hback.2)] at this
                  exact this
                have HL : Hid ((M.set p x).length = n) := by show (M.set p x).length = n; rw [List.length_set]; exact LM.out
                clear hback hxs
                go_wp2
                go_quiet (fail)
                go_wp2
                go_region
                all_goals go_wp2
                go_roundw
                case rel => exact ⟨t + 1, k' + 1, M.set p x, by omega, by omega, by go_num, by go_num, (hM.drewN _).stored p x, (hO.drewN _).setCell p _, HL, HN⟩
                case measure => simp [intOf]; omega
              · cases hcb : Pl.has M x with
                | true =>
                  have HN : Hid (Pl.takeF self (R.drop (t + 1)) M (T.drop k') = Pl.takeF self R N T) := by
                    have := HF.out
                    rw [HR.out, Pl.takeF_pass self x _ M _ _ _ HA2.out (goes_held self x M p z ez hcb hback), ← HD.out] at this
                    exact this
                  have Hc := (show Hid (Pl.has M x = true) from hcb)
                  clear hcb
                  by_cases hxh : x = z
                  · have j2 : (x == z) = true := by simp [hxh]
                    have j3 : (x != ez) = false := by
                      by_cases hxe : x = ez
                      · simp [hxe]
                      · exact absurd ⟨hxh, hxe⟩ hback
                    clear hxh hback hxs
                    go_wp2
                    go_quiet (fail)
                    go_wp2_with fail
                    refine (slcontains_any (some ⟨g, 0, none⟩) n n M x _ ((hM.sl' LM.out).keep (below_drewN _ _)) (by omega)).mono ?_
                    rintro e w8 ⟨rfl, rfl⟩
                    rw [Hc.out]
                    go_wp2_with fail
                    go_roundw
                    case rel => exact ⟨t + 1, k', M, by omega, hk', by go_num, rfl, hM.drewN _, hO.drewN _, LM, HN⟩
                    case measure => simp [intOf]; omega
                  · have j2 : (x == z) = false := beq_eq_false_iff_ne.2 hxh
                    clear hxh hback hxs
                    go_wp2
                    go_quiet (fail)
                    go_wp2_with fail
                    refine (slcontains_any (some ⟨g, 0, none⟩) n n M x _ ((hM.sl' LM.out).keep (below_drewN _ _)) (by omega)).mono ?_
                    rintro e w8 ⟨rfl, rfl⟩
                    rw [Hc.out]
                    go_wp2_with fail
                    go_roundw
                    case rel => exact ⟨t + 1, k', M, by omega, hk', by go_num, rfl, hM.drewN _, hO.drewN _, LM, HN⟩
                    case measure => simp [intOf]; omega
                | false =>
                  have HN : Hid (Pl.takeF self (R.drop (t + 1)) (M.set p x) (T.drop (k' + 1)) = Pl.takeF self R N T) := by
                    have := HF.out
                    rw [HR.out, Pl.takeF_put self x _ M _ _ _ HA2.out (goes_new self x M p z ez hxs hcb)] at this
                    exact this
                  have HL : Hid ((M.set p x).length = n) := by show (M.set p x).length = n; rw [List.length_set]; exact LM.out
                  have Hc := (show Hid (Pl.has M x = false) from hcb)
                  clear hcb
                  by_cases hxh : x = z
                  · have j2 : (x == z) = true := by simp [hxh]
                    have j3 : (x != ez) = false := by
                      by_cases hxe : x = ez
                      · simp [hxe]
                      · exact absurd ⟨hxh, hxe⟩ hback
                    clear hxh hback hxs
                    go_wp2
                    go_quiet (fail)
                    go_wp2_with fail
                    refine (slcontains_any (some ⟨g, 0, none⟩) n n M x _ ((hM.sl' LM.out).keep (below_drewN _ _)) (by omega)).mono ?_
                    rintro e w8 ⟨rfl, rfl⟩
                    rw [Hc.out]
                    go_wp2_with fail
                    go_region
                    all_goals go_wp2
                    go_roundw
                    case rel => exact ⟨t + 1, k' + 1, M.set p x, by omega, by omega, by go_num, by go_num, (hM.drewN _).stored p x, (hO.drewN _).setCell p _, HL, HN⟩
                    case measure => simp [intOf]; omega
                  · have j2 : (x == z) = false := beq_eq_false_iff_ne.2 hxh
                    clear hxh hback hxs
                    go_wp2
                    go_quiet (fail)
                    go_wp2_with fail
                    refine (slcontains_any (some ⟨g, 0, none⟩) n n M x _ ((hM.sl' LM.out).keep (below_drewN _ _)) (by omega)).mono ?_
                    rintro e w8 ⟨rfl, rfl⟩
                    rw [Hc.out]
                    go_wp2_with fail
                    go_region
                    all_goals go_wp2
                    go_roundw
                    case rel => exact ⟨t + 1, k' + 1, M.set p x, by omega, by omega, by go_num, by go_num, (hM.drewN _).stored p x, (hO.drewN _).setCell p _, HL, HN⟩
                    case measure => simp [intOf]; omega
          · have j0 : (z != h) = true := by rw [bne_iff_ne]; exact hzh
            have HA2 : Hid (Pl.adv M (T.drop (k' + 1)) = Pl.adv M (T.drop k)) := by
              have := HA.out
              rw [HD.out, Pl.adv_skip M (p, h, ez) _ (by show ¬ M.getD p 0 = h; rw [Hz.out]; exact hzh)] at this
              exact this
            clear HA hzh
            go_wp2
            go_quiet (fail)
            go_wp2
            go_roundw
            case rel => exact ⟨k' + 1, _, by omega, by go_num, HA2, rfl⟩
            case measure => simp [intOf]; omega
        · have d1 : decide (k' < m) = false := decide_eq_false hkm
          have d2 : ((k' : Int) == (m : Int)) = true := beq_iff_eq.2 (by omega)
          have HE : Hid (Pl.takeF self R N T = M) := by
            have h1 := HA.out
            rw [TE.out k' hkm] at h1
            have h2 := HF.out
            rw [HR.out, Pl.takeF_done self x _ M _ h1.symm] at h2
            exact h2.symm
          clear hkm
          go_wp2
          go_quiet (fail)
          go_wp2
          go_end0
          exact took_mk rfl (by rw [HE.out]; exact hM.drewN _) (O0.trans (hO.drewN _))
    · have HE : Hid (Pl.takeF self R N T = M) := by
        have h2 := HF.out
        rw [List.drop_eq_nil_iff.2 (by rw [SR.len]; omega), Pl.takeF_nil] at h2
        exact h2.symm
      go_wp2
      go_end0
      exact took_mk rfl (by rw [HE.out]; exact hM) (O0.trans hO)

end Go.Proofs.Qxb6600130a
