/-
  FnTakeFillsLivePlacesInOrder: the walk.
-/
import Derived.Test.Qxb6600130aBytes
import Derived.Test.Qxb6600130aClone
import Derived.Test.Qxb6600130aTakeMore
import Derived.Test.Qxb6600130aDist
import Derived.Test.Qxb6600130aYes
import Derived.OpenShut
namespace Go.Proofs.Qxb6600130a
open Go.RowKit
set_option linter.unusedVariables false

theorem Sl.off {w w' : World} {a : Option Addr} {n g : Nat} {zs : List Int} (h : Sl w a n zs) (hg : w.heap.size ≤ g) (hb : Below w.heap.size w w') : Off w' g a n zs := by
  refine ⟨h.len, ?_⟩
  rcases h.cells with h0 | ⟨b, off, ha, hc⟩
  · exact .inl h0
  · by_cases hn : n = 0
    · exact .inl hn
    · refine .inr ⟨b, off, ?_, ha, fun i hi => cell_later hb (hc i hi)⟩
      have h1 := World.block_lt_of_cell? _ _ (hc 0 (by omega))
      have h2 : b < w.heap.size := h1
      omega

theorem Own.at {w : World} {a : Option Addr} {zs : List Int} {base : Nat} (h : Own w a zs base) : ∃ g, At w g a zs ∧ base ≤ g := by
  rcases h with h | ⟨g, rfl, hg, hr⟩
  · exact ⟨base, .inl h, Nat.le_refl _⟩
  · exact ⟨g, .inr ⟨rfl, hr⟩, hg⟩

/-- The plain law, at the spots. -/
theorem fills_plain (self : Int) (N P H E R : List Int) (n m : Nat) (ln : N.length = n) (lp : P.length = m) (hp : ∀ k, k < m → 0 ≤ P.getD k 0 ∧ P.getD k 0 < n) (dP : P.Nodup) (dR : R.Nodup) (hR : ∀ x ∈ R, x ≠ self ∧ ¬ x ∈ N) :
    Pl.takeF self R N (spots P H E m) = Pl.wantF N (spots P H E m) R N := by
  refine Pl.takeF_want self N (spots P H E m) R N ?_ dR (fun q hq => ?_) (fun q hq => rfl) hR
  · unfold spots
    rw [List.map_map]
    unfold List.Nodup at dP ⊢
    rw [List.pairwise_map]
    refine List.Pairwise.imp_of_mem ?_ (List.pairwise_lt_range (n := m))
    intro i j hi hj hij e
    have hi' := List.mem_range.1 hi
    have hj' := List.mem_range.1 hj
    have h1 := hp i hi'
    have h2 := hp j hj'
    have e' : (P.getD i 0).toNat = (P.getD j 0).toNat := e
    rw [List.pairwise_iff_getElem] at dP
    have h3 := dP i j (by omega) (by omega) hij
    apply h3
    have g1 : P.getD i 0 = P[i] := by simp [List.getD, lp, hi']
    have g2 : P.getD j 0 = P[j] := by simp [List.getD, lp, hj']
    rw [← g1, ← g2]
    omega
  · obtain ⟨k, hk, rfl⟩ := spots_mem P H E m q hq
    have := hp k hk
    rw [ln]
    show (P.getD k 0).toNat < n
    omega

set_option maxHeartbeats 4000000 in
set_option maxRecDepth 100000 in
theorem fills_any (self : Int) (a1 a2 a3 a4 a5 : Option Addr) (n1 c1 n2 c2 n3 c3 n4 c4 n5 c5 : Nat) (N E P H R : List Int) (w : World) (hw : (Lit.int .i32 self).wf = true) (s1 : Sl w a1 n1 N) (s2 : Sl w a2 n2 E) (s3 : Sl w a3 n3 P) (s4 : Sl w a4 n4 H) (s5 : Sl w a5 n5 R)
    (m1 : n1 ≤ maxLen) (m2 : n2 ≤ maxLen) (m3 : n3 ≤ maxLen) (m4 : n4 ≤ maxLen) (m5 : n5 ≤ maxLen) (z1 : a1 = none → n1 = 0 ∧ c1 = 0) (z2 : a2 = none → n2 = 0 ∧ c2 = 0) (z3 : a3 = none → n3 = 0 ∧ c3 = 0) (z4 : a4 = none → n4 = 0 ∧ c4 = 0) (z5 : a5 = none → n5 = 0 ∧ c5 = 0) :
    Calls Try.prog 8 #[.int .i32 self, .slice a1 n1 c1, .slice a2 n2 c2, .slice a3 n3 c3, .slice a4 n4 c4, .slice a5 n5 c5] w fun e w' => YesV w e w' := by
  obtain ⟨hs1, hs2⟩ := bounds_i32 hw
  clear hw
  go_enter Try.func8, Try.ntmps8
  go_wp2_with fail
  refine (bytes31 self a1 a2 a3 a4 a5 n1 c1 n2 c2 n3 c3 n4 c4 n5 c5 _ m1 m2 m3 m4 m5).mono ?_
  rintro e w1 ⟨b, rfl, rfl⟩
  clear m1 m2 m3 m4 m5
  cases b with
  | false =>
    go_wp2_with fail
    go_ret
    exact yesv_mk rfl (Below.refl _ _)
  | true =>
    by_cases q1 : (4096 : Int) < (n1 : Int)
    · go_wp2_with fail
      go_ret
      exact yesv_mk rfl (Below.refl _ _)
    by_cases q2 : (4096 : Int) < (n2 : Int)
    · go_wp2_with fail
      go_ret
      exact yesv_mk rfl (Below.refl _ _)
    by_cases q3 : (4096 : Int) < (n3 : Int)
    · go_wp2_with fail
      go_ret
      exact yesv_mk rfl (Below.refl _ _)
    by_cases q4 : (4096 : Int) < (n4 : Int)
    · go_wp2_with fail
      go_ret
      exact yesv_mk rfl (Below.refl _ _)
    by_cases q5 : (4096 : Int) < (n5 : Int)
    · go_wp2_with fail
      go_ret
      exact yesv_mk rfl (Below.refl _ _)
    have k1 : n1 ≤ 4096 := by omega
    have k2 : n2 ≤ 4096 := by omega
    have k3 : n3 ≤ 4096 := by omega
    have k4 : n4 ≤ 4096 := by omega
    have k5 : n5 ≤ 4096 := by omega
    clear q1 q2 q3 q4 q5
    go_wp2_with fail
    refine (shuffle_any a1 a2 a3 a4 n1 n2 n3 n4 c1 c2 c3 c4 P _ s3 k1 k2 k3 k4).mono ?_
    rintro e w2 ⟨b, rfl, hfit, hb2⟩
    cases b with
    | false =>
      go_wp2_with fail
      go_ret
      exact yesv_mk rfl hb2
    | true =>
      obtain ⟨e2, e4, hp0⟩ := hfit rfl
      have hp : Hid (∀ k, k < n3 → 0 ≤ P.getD k 0 ∧ P.getD k 0 < n1) := hp0
      clear hfit hp0
      subst e2
      subst e4
      have L1 : Hid (N.length = n1) := s1.len
      have L2 : Hid (E.length = n4) := s2.len
      have L3 : Hid (P.length = n4) := s3.len
      have L4 : Hid (H.length = n4) := s4.len
      have L5 : Hid (R.length = n5) := s5.len
      have S1 := s1.keep hb2
      have S2 := s2.keep hb2
      have S3 := s3.keep hb2
      have S4 := s4.keep hb2
      have S5 := s5.keep hb2
      clear s1 s2 s3 s4 s5
      go_wp2_with fail
      refine (distinct_any a3 n4 c3 P _ S3 (by omega)).mono ?_
      rintro e wA ⟨rfl, mA, rfl⟩
      obtain ⟨bb, Hb⟩ : ∃ bb, Hid (distB P = bb) := ⟨_, rfl⟩
      rw [Hb.out]
      cases bb with
      | false =>
        go_wp2_with fail
        go_ret
        exact yesv_mk rfl (below_next hb2 (below_drewN _ _))
      | true =>
        have DP : Hid P.Nodup := distB_iff Hb.out
        clear Hb
        go_wp2_with fail
        refine (distinct_any a5 n5 c5 R _ (S5.keep (below_drewN _ _)) (by omega)).mono ?_
        rintro e wB ⟨rfl, mB, rfl⟩
        obtain ⟨bb, Hb⟩ : ∃ bb, Hid (distB R = bb) := ⟨_, rfl⟩
        rw [Hb.out]
        cases bb with
        | false =>
          go_wp2_with fail
          go_ret
          exact yesv_mk rfl (below_next hb2 (below_drewN _ _))
        | true =>
          have DR : Hid R.Nodup := distB_iff Hb.out
          clear Hb
          obtain ⟨wL, HL⟩ : ∃ wL, wL = (w2.drewN mA).drewN mB := ⟨_, rfl⟩
          rw [← HL]
          have bL : Below w2.heap.size w2 wL := by rw [HL]; exact below_next (below_drewN _ mA) (below_drewN _ mB)
          clear HL
          replace S1 := S1.keep bL
          replace S2 := S2.keep bL
          replace S3 := S3.keep bL
          replace S4 := S4.keep bL
          replace S5 := S5.keep bL
          replace hb2 := below_next hb2 bL
          clear bL
          go_wp2_with fail
          go_loop [13] (fun i => ∃ t : Nat, t ≤ n5 ∧ i = .int .i64 t ∧ Hid (∀ s, s < t → R.getD s 0 ≠ self ∧ ¬ R.getD s 0 ∈ N)) (fun i => n5 - (intOf i).toNat)
          case atStart => exact ⟨0, Nat.zero_le _, rfl, fun i hi => by omega⟩
          case round =>
            obtain ⟨t, ht, rfl, HT⟩ := hrel
            by_cases hlt : t < n5
            · rcases S5.cells with hh | ⟨b5, o5, rfl, hc5⟩
              · omega
              obtain ⟨x, Hx⟩ : ∃ z, Hid (R.getD t 0 = z) := ⟨_, rfl⟩
              have r1 : wL.cell? ⟨b5, o5 + t, none⟩ = some (.int .i64 x) := by have := hc5 t hlt; rw [Hx.out] at this; exact this
              clear hc5
              by_cases hxs : x = self
              · have j1 : (x == self) = true := by simp [hxs]
                clear hxs
                go_wp2_with fail
                go_ret
                exact yesv_mk rfl hb2
              · have j1 : (x == self) = false := beq_eq_false_iff_ne.2 hxs
                have HXS : Hid (x ≠ self) := hxs
                clear hxs
                go_wp2_with fail
                refine (contains_any a1 n1 c1 N x _ S1 (by omega)).mono ?_
                rintro e w3 ⟨rfl, rfl⟩
                obtain ⟨bb, Hb⟩ : ∃ bb, Hid (Pl.has N x = bb) := ⟨_, rfl⟩
                rw [Hb.out]
                cases bb with
                | true =>
                  go_wp2_with fail
                  go_ret
                  exact yesv_mk rfl hb2
                | false =>
                  have HN : Hid (∀ s, s < t + 1 → R.getD s 0 ≠ self ∧ ¬ R.getD s 0 ∈ N) := fun s hs => by
                    by_cases e : s = t
                    · rw [e, Hx.out]; exact ⟨HXS.out, (Pl.has_not N x).1 Hb.out⟩
                    · exact HT.out s (by omega)
                  go_wp2_with fail
                  go_round
                  case rel => exact ⟨t + 1, by omega, by go_num, HN⟩
                  case measure => simp [intOf]; omega
            · have HM : Hid (∀ x ∈ R, x ≠ self ∧ ¬ x ∈ N) := fun x hx => by
                obtain ⟨i, hi1, hi2⟩ := List.getElem_of_mem hx
                have := HT.out i (by rw [L5.out] at hi1; omega)
                have e : R.getD i 0 = x := by simp [List.getD, hi1, hi2]
                rw [e] at this
                exact this
              clear HT
              go_wp2_with fail
              refine (clone_any a1 n1 c1 N _ S1 (by omega) z1).mono ?_
              rintro e w3 ⟨d1, rfl, o1, b3⟩
              go_wp2_with fail
              refine (clone_any a2 n4 c2 E _ (S2.keep b3) (by omega) z2).mono ?_
              rintro e w4 ⟨d2, rfl, o2, b4⟩
              go_wp2_with fail
              refine (clone_any a3 n4 c3 P _ ((S3.keep b3).keep b4) (by omega) z3).mono ?_
              rintro e w5 ⟨d3, rfl, o3, b5⟩
              go_wp2_with fail
              refine (clone_any a4 n4 c4 H _ (((S4.keep b3).keep b4).keep b5) (by omega) z4).mono ?_
              rintro e w6 ⟨d4, rfl, o4, b6⟩
              go_wp2_with fail
              refine (clone_any a5 n5 c5 R _ ((((S5.keep b3).keep b4).keep b5).keep b6) (by omega) z5).mono ?_
              rintro e w7 ⟨d5, rfl, o5, b7⟩
              have o1' := (((o1.keep b4).keep b5).keep b6).keep b7
              go_wp2_with fail
              refine (clone_any d1 n1 n1 N _ (o1'.sl' L1.out) (by omega) (o1'.nil L1.out)).mono ?_
              rintro e w8 ⟨d6, rfl, o6, b8⟩
              go_wp2_with fail
              refine (newvw_any self d1 n1 _).mono ?_
              rintro e w9 ⟨V, rfl, hV9, v0, v2, b9⟩
              go_wp2_with fail
              refine (newsh_any d2 d3 d4 n4 _).mono ?_
              rintro e w10 ⟨rfl, b10⟩
              have B0 : Below w.heap.size w wL := hb2
              have B3 := below_next B0 b3
              have B10 := below_next (below_next (below_next (below_next (below_next (below_next (below_next B3 b4) b5) b6) b7) b8) b9) b10
              have hlt := o1.lt_some
              have p1 := ((o1'.keep b8).keep b9).keep b10
              have p2 := ((((((o2.keep b5).keep b6).keep b7).keep b8).keep b9).keep b10)
              have p3 := (((((o3.keep b6).keep b7).keep b8).keep b9).keep b10)
              have p4 := ((((o4.keep b7).keep b8).keep b9).keep b10)
              have p5 := (((o5.keep b8).keep b9).keep b10)
              have p6 := ((o6.keep b9).keep b10)
              have v0' := cell_later b10 v0
              have v2' := cell_later b10 v2
              obtain ⟨g, hA, hg, hoff, hVg⟩ := pick_g (s3 := w3.heap.size) p1 hlt (Nat.le_trans b3.size (Nat.le_trans b4.size (Nat.le_trans b5.size (Nat.le_trans b6.size (Nat.le_trans b7.size (Nat.le_trans b8.size (Nat.le_trans b9.size b10.size)))))))
              have x4 := b4.size
              have x5 := Nat.le_trans x4 b5.size
              have x6 := Nat.le_trans x5 b6.size
              have x7 := Nat.le_trans x6 b7.size
              have x8 := Nat.le_trans x7 b8.size
              have fE := hoff d2 E _ n4 (Nat.le_refl _) L2.out p2
              have fP := hoff d3 P _ n4 x4 L3.out p3
              have fH := hoff d4 H _ n4 x5 L4.out p4
              have fR := hoff d5 R _ n5 x6 L5.out p5
              have fB := hoff d6 N _ n1 x7 L1.out p6
              have hVne := hVg V _ (Nat.le_trans x8 hV9) v2'
              have hgw : w.heap.size ≤ g := Nat.le_trans B0.size hg
              clear hoff hVg p1 p2 p3 p4 p5 p6 o1 o1' o2 o3 o4 o5 o6 b3 b4 b5 b6 b7 b8 b9 b10 B0 B3 v0 v2 hlt hV9 hg x4 x5 x6 x7 x8 S1 S2 S3 S4 S5 z1 z2 z3 z4 z5 hb2
              go_wp2_with fail
              refine (take_any V g n1 n4 n5 self d1 d2 d3 d4 d5 N P H E R _ hs1 hs2 v0' v2' hVne hA L1.out fE fP fH fR k1 k4 k5 hp.out).mono ?_
              rintro e w11 ⟨rfl, hA', hO⟩
              have v2'' := hO.cell (by exact hVne) v2'
              have gP := fP.only hO
              have gH := fH.only hO
              have gR := fR.only hO
              have gB := fB.only hO
              have B11 : Below w.heap.size w w11 := B10.trans (hO.below hgw B10.size)
              clear v0' v2' hVne hA fE fP fH fR fB hO hgw B10
              have HQ : Hid (Pl.takeF self R N (spots P H E n4) = Pl.wantF N (spots P H E n4) R N) := fills_plain self N P H E R n1 n4 L1.out L3.out hp.out DP.out DR.out HM.out
              have LQ : Hid ((Pl.takeF self R N (spots P H E n4)).length = n1) := by
                show (Pl.takeF self R N (spots P H E n4)).length = n1
                rw [Pl.takeF_length]; exact L1.out
              have TD : Hid (∀ k, k < n4 → (spots P H E n4).drop k = ((P.getD k 0).toNat, H.getD k 0, E.getD k 0) :: (spots P H E n4).drop (k + 1)) := fun k hk => spots_drop P H E n4 k hk
              have TE : Hid (∀ k, ¬ k < n4 → (spots P H E n4).drop k = []) := fun k hk => spots_end P H E n4 k hk
              generalize spots P H E n4 = T at TD TE HQ LQ hA'
              generalize Pl.takeF self R N T = Q at HQ LQ hA'
              go_wp2_with fail
              refine (nodes_any V _ _ v2'').mono ?_
              rintro e w12 ⟨rfl, rfl⟩
              go_wp2_with fail
              refine (clone_any d6 n1 n1 N _ gB.sl (by omega) (fun e => by
                rcases gB.cells with h0 | ⟨b, off, _, h1, _⟩
                · exact ⟨h0, h0⟩
                · rw [e] at h1; cases h1)).mono ?_
              rintro e w12 ⟨d7, rfl, o7, b12⟩
              obtain ⟨g7, hA7, hg7⟩ := o7.at
              have fP := (gP.sl).off hg7 b12
              have fH := (gH.sl).off hg7 b12
              have fR := (gR.sl).off hg7 b12
              have fB := (gB.sl).off hg7 b12
              have fA := (hA'.sl LQ.out).off hg7 b12
              have hgw : w.heap.size ≤ g7 := Nat.le_trans B11.size hg7
              have B12 := below_next B11 b12
              clear gP gH gR gB hA' o7 b12 hg7 B11 v2'' DP DR HM
              go_wp2_with fail
              go_loopw [18, 19] (fun vt vj wr => ∃ (t j : Nat) (M : List Int), t ≤ n5 ∧ j ≤ n4 ∧ vt = .int .i64 t ∧ vj = .int .i64 j ∧ At wr g7 d7 M ∧ Only g7 w12 wr ∧ Hid (M.length = n1) ∧ Hid (Pl.wantF N (T.drop j) (R.drop t) M = Pl.wantF N T R N)) (fun _ vj _ => n4 - (intOf vj).toNat)
              case atStart => exact ⟨0, 0, N, Nat.zero_le _, Nat.zero_le _, rfl, rfl, hA7, Only.refl _ _, L1, rfl⟩
              case round =>
                obtain ⟨t, j, M, ht, hj, rfl, rfl, hM, hO, LM, HF⟩ := hrel
                by_cases hjm : j < n4
                · by_cases htr : t < n5
                  · obtain ⟨pz, Hpz⟩ : ∃ z, Hid (P.getD j 0 = z) := ⟨_, rfl⟩
                    have hb := hp.out j hjm
                    rw [Hpz.out] at hb
                    obtain ⟨p, rfl⟩ := Int.eq_ofNat_of_zero_le hb.1
                    have hpn : p < n1 := by omega
                    clear hb
                    obtain ⟨h, Hh⟩ : ∃ z, Hid (H.getD j 0 = z) := ⟨_, rfl⟩
                    obtain ⟨y, Hy⟩ : ∃ z, Hid (N.getD p 0 = z) := ⟨_, rfl⟩
                    obtain ⟨x, Hx⟩ : ∃ z, Hid (R.getD t 0 = z) := ⟨_, rfl⟩
                    obtain ⟨u, Hu⟩ : ∃ z, Hid (M.getD p 0 = z) := ⟨_, rfl⟩
                    rcases hM with ⟨_, hn⟩ | ⟨rfl, hr⟩
                    · exfalso
                      have := LM.out
                      rw [hn] at this
                      simp at this
                      omega
                    rcases fP.cells with hh | ⟨bP, oP, nP, rfl, cP⟩
                    · omega
                    rcases fH.cells with hh | ⟨bH, oH, nH, rfl, cH⟩
                    · omega
                    rcases fR.cells with hh | ⟨bR, oR, nR, rfl, cR⟩
                    · omega
                    rcases fB.cells with hh | ⟨bB, oB, nB, rfl, cB⟩
                    · omega
                    have l1 : wr.cell? ⟨bP, oP + j, none⟩ = some (.int .i64 p) := by have := hO.cell (by exact nP) (cP j hjm); rw [Hpz.out] at this; exact this
                    have l2 : wr.cell? ⟨bH, oH + j, none⟩ = some (.int .i64 h) := by have := hO.cell (by exact nH) (cH j hjm); rw [Hh.out] at this; exact this
                    have l3 : wr.cell? ⟨bR, oR + t, none⟩ = some (.int .i64 x) := by have := hO.cell (by exact nR) (cR t htr); rw [Hx.out] at this; exact this
                    have l4 : wr.cell? ⟨bB, oB + p, none⟩ = some (.int .i64 y) := by have := hO.cell (by exact nB) (cB p hpn); rw [Hy.out] at this; exact this
                    have l5 : wr.cell? ⟨g7, p, none⟩ = some (.int .i64 u) := by have := hr.cell p (by rw [LM.out]; exact hpn); rw [Hu.out] at this; exact this
                    have l6 : wr.frozen? ⟨g7, p, none⟩ = false := hr.frozen p
                    have i1 : (j : Int) < (n4 : Int) := by omega
                    have i2 : (p : Int) < (n1 : Int) := by omega
                    have i3 : (t : Int) < (n5 : Int) := by omega
                    have HD : Hid (T.drop j = (p, h, E.getD j 0) :: T.drop (j + 1)) := by have := TD.out j hjm; rw [Hpz.out, Hh.out] at this; exact this
                    have HR : Hid (R.drop t = x :: R.drop (t + 1)) := by have := Pl.drop_cons R t (by rw [L5.out]; exact htr); rw [Hx.out] at this; exact this
                    clear cP cH cR cB
                    by_cases hyh : y = h
                    · have j1 : (y == h) = true := by simp [hyh]
                      have HN : Hid (Pl.wantF N (T.drop (j + 1)) (R.drop (t + 1)) (M.set p x) = Pl.wantF N T R N) := by
                        have := HF.out
                        rw [HD.out, HR.out, Pl.wantF_hit N (p, h, E.getD j 0) _ x _ M (by show N.getD p 0 = h; rw [Hy.out]; exact hyh)] at this
                        exact this
                      have HL : Hid ((M.set p x).length = n1) := by show (M.set p x).length = n1; rw [List.length_set]; exact LM.out
                      clear hyh
                      go_wp2
                      go_region
                      all_goals go_wp2
                      go_region
                      all_goals go_wp2
                      go_roundw
                      case rel => exact ⟨t + 1, j + 1, M.set p x, by omega, by omega, by go_num, by go_num, .inr ⟨rfl, ((hr.stored p x).drew).drew⟩, ((hO.setCell p _).drew).drew, HL, HN⟩
                      case measure => simp [intOf]; omega
                    · have j1 : (y == h) = false := beq_eq_false_iff_ne.2 hyh
                      have HN : Hid (Pl.wantF N (T.drop (j + 1)) (R.drop t) M = Pl.wantF N T R N) := by
                        have := HF.out
                        rw [HD.out, HR.out, Pl.wantF_miss N (p, h, E.getD j 0) _ x _ M (by show ¬ N.getD p 0 = h; rw [Hy.out]; exact hyh), ← HR.out] at this
                        exact this
                      clear hyh
                      go_wp2
                      go_region
                      all_goals go_wp2
                      go_roundw
                      case rel => exact ⟨t, j + 1, M, by omega, by omega, rfl, by go_num, .inr ⟨rfl, hr.drew⟩, hO.drew, LM, HN⟩
                      case measure => simp [intOf]; omega
                  · have HE : Hid (eqB Q M = true) := eqB_yes (by
                      have h2 := HF.out
                      have h3 : R.drop t = [] := List.drop_eq_nil_iff.2 (by rw [L5.out]; omega)
                      rw [h3, Pl.wantF_nil] at h2
                      rw [h2]; exact HQ.out)
                    go_wp2_with fail
                    refine (eqInts_any d1 d7 n1 n1 n1 n1 Q M _ (fA.only hO).sl (hM.sl LM.out) (by omega) (by omega)).mono ?_
                    rintro e w13 ⟨rfl, m13, rfl⟩
                    rw [HE.out]
                    go_wp2_with fail
                    go_ret
                    exact yesv_mk rfl (below_next (B12.trans (hO.below hgw B12.size)) (below_drewN _ _))
                · have HE : Hid (eqB Q M = true) := eqB_yes (by
                    have h2 := HF.out
                    rw [TE.out j hjm, Pl.wantF_none] at h2
                    rw [h2]; exact HQ.out)
                  go_wp2_with fail
                  refine (eqInts_any d1 d7 n1 n1 n1 n1 Q M _ (fA.only hO).sl (hM.sl LM.out) (by omega) (by omega)).mono ?_
                  rintro e w13 ⟨rfl, m13, rfl⟩
                  rw [HE.out]
                  go_wp2_with fail
                  go_ret
                  exact yesv_mk rfl (below_next (B12.trans (hO.below hgw B12.size)) (below_drewN _ _))

end Go.Proofs.Qxb6600130a
