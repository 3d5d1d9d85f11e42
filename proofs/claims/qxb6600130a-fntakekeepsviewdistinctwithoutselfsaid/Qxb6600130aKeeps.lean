/-
  FnTakeKeepsViewDistinctWithoutSelf: the walk.
-/
import Derived.Test.Qxb6600130aBytes
import Derived.Test.Qxb6600130aClone
import Derived.Test.Qxb6600130aTakeMore
import Derived.Test.Qxb6600130aDist
import Derived.Test.Qxb6600130aYes
import Derived.OpenShut
namespace Go.Proofs.Qxb6600130a
open Go.RowKit
set_option linter.unusedVariables false

/-- The plain law, at the spots. -/
theorem keeps_plain (self : Int) (N P H E R : List Int) (m : Nat) (h1 : ¬ self ∈ N) (h2 : N.Nodup) : Pl.Kept self N (spots P H E m) R (Pl.takeF self R N (spots P H E m)) :=
  Pl.takeF_kept self N (spots P H E m) R R N (spots P H E m) (fun x hx => hx) (fun q hq => hq) ⟨rfl, h2, h1, fun i _ => .inl rfl⟩

theorem keeps_live (self : Int) (N P H E R Q : List Int) (n m : Nat) (hk : Pl.Kept self N (spots P H E m) R Q) (ln : N.length = n) (hp : ∀ k, k < m → 0 ≤ P.getD k 0 ∧ P.getD k 0 < n) (k : Nat) (hkn : k < n) (hne : Q.getD k 0 ≠ N.getD k 0) :
    liveB k N P H m = true ∧ Pl.has R (Q.getD k 0) = true := by
  obtain ⟨h1, _, _, h4⟩ := hk
  rcases h4 k (by omega) with h | ⟨⟨q, hq, e1, e2⟩, hr⟩
  · exact absurd h hne
  · obtain ⟨j, hj, rfl⟩ := spots_mem P H E m q hq
    have hpj := hp j hj
    have e1' : (P.getD j 0).toNat = k := e1
    have e2' : N.getD k 0 = H.getD j 0 := e2
    exact ⟨liveB_yes j hj (by omega) e2', (Pl.has_iff R _).2 hr⟩

set_option maxHeartbeats 4000000 in
set_option maxRecDepth 100000 in
theorem keeps_any (self : Int) (a1 a2 a3 a4 a5 : Option Addr) (n1 c1 n2 c2 n3 c3 n4 c4 n5 c5 : Nat) (N E P H R : List Int) (w : World) (hw : (Lit.int .i32 self).wf = true) (s1 : Sl w a1 n1 N) (s2 : Sl w a2 n2 E) (s3 : Sl w a3 n3 P) (s4 : Sl w a4 n4 H) (s5 : Sl w a5 n5 R)
    (m1 : n1 ≤ maxLen) (m2 : n2 ≤ maxLen) (m3 : n3 ≤ maxLen) (m4 : n4 ≤ maxLen) (m5 : n5 ≤ maxLen) (z1 : a1 = none → n1 = 0 ∧ c1 = 0) (z2 : a2 = none → n2 = 0 ∧ c2 = 0) (z3 : a3 = none → n3 = 0 ∧ c3 = 0) (z4 : a4 = none → n4 = 0 ∧ c4 = 0) (z5 : a5 = none → n5 = 0 ∧ c5 = 0) :
    Calls Try.prog 6 #[.int .i32 self, .slice a1 n1 c1, .slice a2 n2 c2, .slice a3 n3 c3, .slice a4 n4 c4, .slice a5 n5 c5] w fun e w' => YesV w e w' := by
  obtain ⟨hs1, hs2⟩ := bounds_i32 hw
  clear hw
  go_enter Try.func6, Try.ntmps6
  go_wp2_with fail
  refine (bytes21 self a1 a2 a3 a4 a5 n1 c1 n2 c2 n3 c3 n4 c4 n5 c5 _ m1 m2 m3 m4 m5).mono ?_
  rintro e w1 ⟨b, rfl, rfl⟩
  clear m1 m2 m3 m4 m5
  cases b with
  | false =>
    go_wp2_with fail
    go_ret
    exact yesv_mk rfl (Below.refl _ _)
  | true =>
    by_cases q1 : (4096 : Int) < (n1 : Int)
    · go_wp2_with fail
      go_ret
      exact yesv_mk rfl (Below.refl _ _)
    by_cases q2 : (4096 : Int) < (n2 : Int)
    · go_wp2_with fail
      go_ret
      exact yesv_mk rfl (Below.refl _ _)
    by_cases q3 : (4096 : Int) < (n3 : Int)
    · go_wp2_with fail
      go_ret
      exact yesv_mk rfl (Below.refl _ _)
    by_cases q4 : (4096 : Int) < (n4 : Int)
    · go_wp2_with fail
      go_ret
      exact yesv_mk rfl (Below.refl _ _)
    by_cases q5 : (4096 : Int) < (n5 : Int)
    · go_wp2_with fail
      go_ret
      exact yesv_mk rfl (Below.refl _ _)
    have k1 : n1 ≤ 4096 := by omega
    have k2 : n2 ≤ 4096 := by omega
    have k3 : n3 ≤ 4096 := by omega
    have k4 : n4 ≤ 4096 := by omega
    have k5 : n5 ≤ 4096 := by omega
    clear q1 q2 q3 q4 q5
    go_wp2_with fail
    refine (shuffle_any a1 a2 a3 a4 n1 n2 n3 n4 c1 c2 c3 c4 P _ s3 k1 k2 k3 k4).mono ?_
    rintro e w2 ⟨b, rfl, hfit, hb2⟩
    cases b with
    | false =>
      go_wp2_with fail
      go_ret
      exact yesv_mk rfl hb2
    | true =>
      obtain ⟨e2, e4, hp0⟩ := hfit rfl
      have hp : Hid (∀ k, k < n3 → 0 ≤ P.getD k 0 ∧ P.getD k 0 < n1) := hp0
      clear hfit hp0
      subst e2
      subst e4
      have L1 : Hid (N.length = n1) := s1.len
      have L2 : Hid (E.length = n4) := s2.len
      have L3 : Hid (P.length = n4) := s3.len
      have L4 : Hid (H.length = n4) := s4.len
      have L5 : Hid (R.length = n5) := s5.len
      have S1 := s1.keep hb2
      have S2 := s2.keep hb2
      have S3 := s3.keep hb2
      have S4 := s4.keep hb2
      have S5 := s5.keep hb2
      clear s1 s2 s3 s4 s5
      go_wp2_with fail
      refine (valid_any self a1 n1 c1 N _ hs1 hs2 S1 (by omega)).mono ?_
      rintro e wL ⟨rfl, mA, HL⟩
      have bL : Below w2.heap.size w2 wL := by rw [HL]; exact below_drewN _ mA
      clear HL
      obtain ⟨bb, Hb⟩ : ∃ bb, Hid (viewB self N = bb) := ⟨_, rfl⟩
      rw [Hb.out]
      cases bb with
      | false =>
        go_wp2_with fail
        go_ret
        exact yesv_mk rfl (below_next hb2 bL)
      | true =>
        have DV : Hid (¬ self ∈ N ∧ N.Nodup) := viewB_iff Hb.out
        clear Hb
        replace S1 := S1.keep bL
        replace S2 := S2.keep bL
        replace S3 := S3.keep bL
        replace S4 := S4.keep bL
        replace S5 := S5.keep bL
        replace hb2 := below_next hb2 bL
        clear bL
        go_wp2_with fail
        refine (clone_any a1 n1 c1 N _ S1 (by omega) z1).mono ?_
        rintro e w3 ⟨d1, rfl, o1, b3⟩
        go_wp2_with fail
        refine (clone_any a2 n4 c2 E _ (S2.keep b3) (by omega) z2).mono ?_
        rintro e w4 ⟨d2, rfl, o2, b4⟩
        go_wp2_with fail
        refine (clone_any a3 n4 c3 P _ ((S3.keep b3).keep b4) (by omega) z3).mono ?_
        rintro e w5 ⟨d3, rfl, o3, b5⟩
        go_wp2_with fail
        refine (clone_any a4 n4 c4 H _ (((S4.keep b3).keep b4).keep b5) (by omega) z4).mono ?_
        rintro e w6 ⟨d4, rfl, o4, b6⟩
        go_wp2_with fail
        refine (clone_any a5 n5 c5 R _ ((((S5.keep b3).keep b4).keep b5).keep b6) (by omega) z5).mono ?_
        rintro e w7 ⟨d5, rfl, o5, b7⟩
        have o1' := (((o1.keep b4).keep b5).keep b6).keep b7
        go_wp2_with fail
        refine (clone_any d1 n1 n1 N _ (o1'.sl' L1.out) (by omega) (o1'.nil L1.out)).mono ?_
        rintro e w8 ⟨d6, rfl, o6, b8⟩
        go_wp2_with fail
        refine (newvw_any self d1 n1 _).mono ?_
        rintro e w9 ⟨V, rfl, hV9, v0, v2, b9⟩
        go_wp2_with fail
        refine (newsh_any d2 d3 d4 n4 _).mono ?_
        rintro e w10 ⟨rfl, b10⟩
        have B0 : Below w.heap.size w wL := hb2
        have B3 := below_next B0 b3
        have B10 := below_next (below_next (below_next (below_next (below_next (below_next (below_next B3 b4) b5) b6) b7) b8) b9) b10
        have hlt := o1.lt_some
        have p1 := ((o1'.keep b8).keep b9).keep b10
        have p2 := ((((((o2.keep b5).keep b6).keep b7).keep b8).keep b9).keep b10)
        have p3 := (((((o3.keep b6).keep b7).keep b8).keep b9).keep b10)
        have p4 := ((((o4.keep b7).keep b8).keep b9).keep b10)
        have p5 := (((o5.keep b8).keep b9).keep b10)
        have p6 := ((o6.keep b9).keep b10)
        have v0' := cell_later b10 v0
        have v2' := cell_later b10 v2
        obtain ⟨g, hA, hg, hoff, hVg⟩ := pick_g (s3 := w3.heap.size) p1 hlt (Nat.le_trans b3.size (Nat.le_trans b4.size (Nat.le_trans b5.size (Nat.le_trans b6.size (Nat.le_trans b7.size (Nat.le_trans b8.size (Nat.le_trans b9.size b10.size)))))))
        have x4 := b4.size
        have x5 := Nat.le_trans x4 b5.size
        have x6 := Nat.le_trans x5 b6.size
        have x7 := Nat.le_trans x6 b7.size
        have x8 := Nat.le_trans x7 b8.size
        have fE := hoff d2 E _ n4 (Nat.le_refl _) L2.out p2
        have fP := hoff d3 P _ n4 x4 L3.out p3
        have fH := hoff d4 H _ n4 x5 L4.out p4
        have fR := hoff d5 R _ n5 x6 L5.out p5
        have fB := hoff d6 N _ n1 x7 L1.out p6
        have hVne := hVg V _ (Nat.le_trans x8 hV9) v2'
        have hgw : w.heap.size ≤ g := Nat.le_trans B0.size hg
        clear hoff hVg p1 p2 p3 p4 p5 p6 o1 o1' o2 o3 o4 o5 o6 b3 b4 b5 b6 b7 b8 b9 b10 B0 B3 v0 v2 hlt hV9 hg x4 x5 x6 x7 x8 S1 S2 S3 S4 S5 z1 z2 z3 z4 z5 hb2
        go_wp2_with fail
        refine (take_any V g n1 n4 n5 self d1 d2 d3 d4 d5 N P H E R _ hs1 hs2 v0' v2' hVne hA L1.out fE fP fH fR k1 k4 k5 hp.out).mono ?_
        rintro e w11 ⟨rfl, hA', hO⟩
        have v2'' := hO.cell (by exact hVne) v2'
        have gP := fP.only hO
        have gH := fH.only hO
        have gR := fR.only hO
        have gB := fB.only hO
        have B11 : Below w.heap.size w w11 := B10.trans (hO.below hgw B10.size)
        clear v0' v2' hVne hA fE fP fH fR fB hO hgw B10
        have HK : Hid (Pl.Kept self N (spots P H E n4) R (Pl.takeF self R N (spots P H E n4))) := keeps_plain self N P H E R n4 DV.out.1 DV.out.2
        have LQ : Hid ((Pl.takeF self R N (spots P H E n4)).length = n1) := by
          show (Pl.takeF self R N (spots P H E n4)).length = n1
          rw [Pl.takeF_length]; exact L1.out
        generalize Pl.takeF self R N (spots P H E n4) = Q at HK LQ hA'
        have HV : Hid (viewB self Q = true) := viewB_yes HK.out.2.2.1 HK.out.2.1
        have HLV : Hid (∀ k, k < n1 → Q.getD k 0 ≠ N.getD k 0 → liveB k N P H n4 = true ∧ Pl.has R (Q.getD k 0) = true) := fun k h1 h2 => keeps_live self N P H E R Q n1 n4 HK.out L1.out hp.out k h1 h2
        have SA := hA'.sl LQ.out
        have SB := gB.sl
        have SP := gP.sl
        have SH := gH.sl
        have SR := gR.sl
        clear HK DV gB gP gH gR hA'
        go_wp2_with fail
        refine (nodes_any V _ _ v2'').mono ?_
        rintro e w12 ⟨rfl, rfl⟩
        go_wp2_with fail
        refine (valid_any self d1 n1 n1 Q _ hs1 hs2 SA (by omega)).mono ?_
        rintro e w12 ⟨rfl, m12, HL⟩
        have b12 : Below w11.heap.size w11 w12 := by rw [HL]; exact below_drewN _ m12
        clear HL
        rw [HV.out]
        go_wp2_with fail
        go_loopw [16] (fun vi wr => ∃ k : Nat, k ≤ n1 ∧ vi = .int .i64 k ∧ Below w11.heap.size w11 wr) (fun vi _ => n1 - (intOf vi).toNat)
        case atStart => exact ⟨0, Nat.zero_le _, rfl, b12⟩
        case round =>
          obtain ⟨k, hk, rfl, hbw⟩ := hrel
          by_cases hlt : k < n1
          · rcases SA.cells with hh | ⟨bA, oA, rfl, cA⟩
            · omega
            rcases SB.cells with hh | ⟨bB, oB, rfl, cB⟩
            · omega
            obtain ⟨x, Hx⟩ : ∃ z, Hid (Q.getD k 0 = z) := ⟨_, rfl⟩
            obtain ⟨y, Hy⟩ : ∃ z, Hid (N.getD k 0 = z) := ⟨_, rfl⟩
            have t1 : w11.cell? ⟨bA, oA + k, none⟩ = some (.int .i64 x) := by have := cA k hlt; rw [Hx.out] at this; exact this
            have l1 := cell_later hbw t1
            have l2 : wr.cell? ⟨bB, oB + k, none⟩ = some (.int .i64 y) := by have := cell_later hbw (cB k hlt); rw [Hy.out] at this; exact this
            have HT : Hid (w11.cell? ⟨bA, oA + k, none⟩ = some (.int .i64 x)) := t1
            clear cA cB t1
            by_cases hxy : x = y
            · have j1 : (x == y) = true := by simp [hxy]
              clear hxy
              go_wp2
              go_region
              all_goals go_wp2
              go_roundw
              case rel => exact ⟨k + 1, by omega, by go_num, hbw.drew⟩
              case measure => simp [intOf]; omega
            · have j1 : (x == y) = false := beq_eq_false_iff_ne.2 hxy
              have HF := HLV.out k hlt (by rw [Hx.out, Hy.out]; exact hxy)
              have HF1 : Hid (liveB k N P H n4 = true) := HF.1
              have HF2 : Hid (Pl.has R x = true) := by rw [← Hx.out]; exact HF.2
              clear HF hxy
              go_wp2
              go_region
              all_goals go_wp2_with fail
              refine (live_any k _ d3 d4 n1 n4 n1 n4 n4 N P H _ (SB.keep hbw.drew) (SP.keep hbw.drew) (SH.keep hbw.drew) hlt k1 k4).mono ?_
              rintro e w8 ⟨rfl, m8, hw8⟩
              have hb8 : Below w11.heap.size w11 w8 := hbw.trans (by rw [hw8]; exact ⟨rfl, rfl, rfl, Nat.le_refl _, fun _ _ => rfl⟩)
              clear hw8
              have l3 := cell_later hb8 HT.out
              rw [HF1.out]
              go_wp2_with fail
              refine (contains_any d5 n5 n5 R x _ (SR.keep hb8) (by omega)).mono ?_
              rintro e w9 ⟨rfl, rfl⟩
              rw [HF2.out]
              go_wp2_with fail
              go_roundw
              case rel => exact ⟨k + 1, by omega, by go_num, hb8⟩
              case measure => simp [intOf]; omega
          · go_wp2
            go_ret
            exact yesv_mk rfl (below_next B11 hbw)

end Go.Proofs.Qxb6600130a
