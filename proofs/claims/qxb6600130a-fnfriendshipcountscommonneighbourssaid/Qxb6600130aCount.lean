/-
  FnFriendshipCountsCommonNeighbours: the walk.
-/
import Derived.Test.Qxb6600130aMost
namespace Go.Proofs.Qxb6600130a
open Go.RowKit
set_option linter.unusedVariables false

theorem drewN_two (w : World) (a b : Nat) : (w.drewN a).drewN b = w.drewN (a + b) := by
  simp [World.drewN, Nat.add_assoc]

set_option maxHeartbeats 1000000 in
theorem count_any (a0 a1 : Option Addr) (n0 c0 n1 c1 : Nat) (F N : List Int) (u v : Int) (w : World) (h0 : Sl w a0 n0 F) (h1 : Sl w a1 n1 N) (m0 : n0 ≤ maxLen) (m1 : n1 ≤ maxLen) (z0 : a0 = none → n0 = 0 ∧ c0 = 0) (z1 : a1 = none → n1 = 0 ∧ c1 = 0) :
    Calls Try.prog 3 #[.slice a0 n0 c0, .slice a1 n1 c1, .int .i64 u, .int .i64 v] w fun e w' => Yes w e w' := by
  go_enter Try.func3, Try.ntmps3
  go_wp2_with fail
  refine (bytes11 a0 a1 n0 c0 n1 c1 u v _ m0 m1).mono ?_
  rintro e w1 ⟨b, rfl, rfl⟩
  cases b with
  | false =>
    go_wp2_with fail
    go_ret
    exact yes_mk rfl (Below.refl _ _)
  | true =>
    by_cases k0 : n0 ≤ 65536
    · by_cases k1 : n1 ≤ 65536
      · go_wp2_with fail
        refine (graph_any a0 a1 n0 c0 n1 c1 F N u v _ h0 h1 k0 k1).mono ?_
        rintro e w2 ⟨b, rfl, hfit, hb2⟩
        cases b with
        | false =>
          go_wp2_with fail
          go_ret
          exact yes_mk rfl hb2
        | true =>
          have fit := hfit rfl
          clear hfit
          obtain ⟨i, rfl⟩ := Int.eq_ofNat_of_zero_le fit.u.1
          obtain ⟨j, rfl⟩ := Int.eq_ofNat_of_zero_le fit.v.1
          have hi : i + 1 < n0 := by have := fit.u.2; rw [h0.len] at this; omega
          have hj : j + 1 < n0 := by have := fit.v.2; rw [h0.len] at this; omega
          obtain ⟨p, xs, nx⟩ := node_of_fits F N n0 n1 _ _ fit h0.len h1.len i hi
          obtain ⟨q, ys, ny⟩ := node_of_fits F N n0 n1 _ _ fit h0.len h1.len j hj
          have s0 := h0.keep hb2
          have s1 := h1.keep hb2
          clear fit
          go_wp2_with fail
          refine (clone_any a0 n0 c0 F _ s0 k0 z0).mono ?_
          rintro e w3 ⟨d0, rfl, o0, hb3⟩
          have s1' := s1.keep hb3
          go_wp2_with fail
          refine (clone_any a1 n1 c1 N _ s1' k1 z1).mono ?_
          rintro e w4 ⟨d1, rfl, o1, hb4⟩
          have t0 := (o0.keep hb4).sl' h0.len
          have t1 := o1.sl' h1.len
          go_wp2_with fail
          refine (newgr_any d0 d1 n0 n1 _).mono ?_
          rintro e w5 ⟨G, rfl, g1, g2, hb5⟩
          have gr : Gr w5 G d0 n0 F d1 n1 N := ⟨g1, g2, t0.keep hb5, t1.keep hb5⟩
          have B5 := below_next (below_next (below_next hb2 hb3) hb4) hb5
          have T0 := t0.keep hb5
          have T1 := t1.keep hb5
          clear g1 g2 t0 t1 o0 o1 s0 s1 s1' h0 h1 z0 z1 hb2 hb3 hb4 hb5
          go_wp2_with fail
          refine (friend_any G d0 d1 n0 n1 F N i j p q xs ys _ gr k0 k1 nx ny).mono ?_
          rintro e w6 ⟨rfl, hb6⟩
          obtain ⟨c, Hc⟩ : ∃ c : Nat, Hid (Pl.cnt xs ys = c) := ⟨_, rfl⟩
          obtain ⟨d, Hd⟩ : ∃ d : Int, Hid (deg xs ys = d) := ⟨_, rfl⟩
          rw [Hc.out, Hd.out]
          go_wp2_with fail
          refine (parts_any c d _).mono ?_
          rintro e w7 ⟨rfl, hb7⟩
          have B7 := below_next (below_next B5 hb6) hb7
          have U0 := (T0.keep hb6).keep hb7
          have U1 := (T1.keep hb6).keep hb7
          clear gr B5 hb6 hb7 T0 T1
          obtain ⟨lx, hx, ex1, ex2, ex3, ex4, ex5, ex6⟩ := nx.ex
          obtain ⟨ly, hy, ey1, ey2, ey3, ey4, ey5, ey6⟩ := ny.ex
          rcases U0.cells with hh | ⟨b0, off0, rfl, hc0⟩
          · omega
          have f1 : w7.cell? ⟨b0, off0 + i, none⟩ = some (.int .i64 lx) := by rw [hc0 i (by omega), ex1]
          have f2 : w7.cell? ⟨b0, off0 + (i + 1), none⟩ = some (.int .i64 hx) := by rw [hc0 (i + 1) (by omega), ex2]
          have f3 : w7.cell? ⟨b0, off0 + j, none⟩ = some (.int .i64 ly) := by rw [hc0 j (by omega), ey1]
          have f4 : w7.cell? ⟨b0, off0 + (j + 1), none⟩ = some (.int .i64 hy) := by rw [hc0 (j + 1) (by omega), ey2]
          have g1 : (i : Int) + 1 < (n0 : Int) := by omega
          have g2 : (j : Int) + 1 < (n0 : Int) := by omega
          have g3 : (lx : Int) ≤ (hx : Int) := by omega
          have g4 : (hx : Int) ≤ (n1 : Int) := by omega
          have g5 : (ly : Int) ≤ (hy : Int) := by omega
          have g6 : (hy : Int) ≤ (n1 : Int) := by omega
          clear hc0 ex1 ex2 ey1 ey2
          have EX5 : Hid (hx - lx = p) := ex5
          have EX6 : Hid ((N.drop lx).take (hx - lx) = xs) := ex6
          have EY5 : Hid (hy - ly = q) := ey5
          have EY6 : Hid ((N.drop ly).take (hy - ly) = ys) := ey6
          clear ex5 ex6 ey5 ey6
          have SX := U1.cut lx hx ex3 ex4
          rw [EX6.out, EX5.out] at SX
          have SY := U1.cut ly hy ey3 ey4
          rw [EY6.out, EY5.out] at SY
          have hax := nx.asc
          have hay := ny.asc
          have LX : Hid (xs.length = p) := nx.len
          have LY : Hid (ys.length = q) := ny.len
          have bp := nx.le
          have bq := ny.le
          have bm : (p : Int) * (q : Int) ≤ 4294967296 := by
            have : p * q ≤ 65536 * 65536 := Nat.mul_le_mul (by omega) (by omega)
            rw [← Int.natCast_mul]; omega
          have bm0 : 0 ≤ (p : Int) * (q : Int) := by rw [← Int.natCast_mul]; omega
          clear nx ny U0 U1 hi hj
          go_wp2
          go_quiet (fail)
          generalize (if n1 = lx then d1 else Option.map (fun x => x.add lx) d1) = ax at SX ⊢
          rw [EX5.out]
          go_wp2
          go_quiet (fail)
          generalize (if n1 = ly then d1 else Option.map (fun x => x.add ly) d1) = ay at SY ⊢
          rw [EY5.out]
          clear EX5 EX6 EY5 EY6 f1 f2 f3 f4 g1 g2 g3 g4 g5 g6 ex3 ex4 ey3 ey4
          go_wp2
          go_loopw [14, 15] (fun vw vi wr => ∃ k t : Nat, k ≤ p ∧ t ≤ k ∧ vi = .int .i64 k ∧ vw = .int .u64 t ∧ Hid (Pl.cnt (xs.take k) ys = t) ∧ ∃ m, wr = w7.drewN m) (fun _ vi _ => p - (intOf vi).toNat)
          case atStart => exact ⟨0, 0, Nat.zero_le _, Nat.le_refl _, rfl, rfl, rfl, _, drewN_two _ _ _⟩
          case round =>
            obtain ⟨k, t, hk, ht, rfl, rfl, HT, m, rfl⟩ := hrel
            by_cases hlt : k < p
            · rcases SX.cells with hh | ⟨b1, o1, rfl, hc1⟩
              · omega
              obtain ⟨x, Hx⟩ : ∃ z, Hid (xs.getD k 0 = z) := ⟨_, rfl⟩
              have e1 : w7.cell? ⟨b1, o1 + k, none⟩ = some (.int .i64 x) := by have := hc1 k hlt; rw [Hx.out] at this; exact this
              have HS : Hid (Pl.cnt (xs.take (k + 1)) ys = t + if Pl.has ys x = true then 1 else 0) := by
                have := Pl.cnt_take xs ys k (by rw [LX.out]; exact hlt)
                rw [HT.out, Hx.out] at this
                exact this
              clear hc1
              go_wp2_with fail
              refine (sorted_any ay q _ ys x _ (SY.keep (below_drewN _ _)) (Nat.le_trans bq k1) hay).mono ?_
              rintro e w8 ⟨rfl, rfl⟩
              obtain ⟨bb, Hb⟩ : ∃ bb, Hid (Pl.has ys x = bb) := ⟨_, rfl⟩
              rw [Hb.out]
              cases bb with
              | true =>
                have HS2 : Hid (Pl.cnt (xs.take (k + 1)) ys = t + 1) := by have := HS.out; rw [Hb.out, if_pos rfl] at this; exact this
                go_wp2_with fail
                go_roundw
                case rel => exact ⟨k + 1, t + 1, by omega, by omega, by go_num, by go_num, HS2, _, rfl⟩
                case measure => simp [intOf]; omega
              | false =>
                have HS2 : Hid (Pl.cnt (xs.take (k + 1)) ys = t) := by have := HS.out; rw [Hb.out, if_neg (by simp)] at this; exact this
                go_wp2_with fail
                go_roundw
                case rel => exact ⟨k + 1, t, by omega, by omega, by go_num, rfl, HS2, _, rfl⟩
                case measure => simp [intOf]; omega
            · have HT2 : Hid (t = c) := by
                have := HT.out
                rw [List.take_of_length_le (by rw [LX.out]; omega), Hc.out] at this
                exact this.symm
              have hct : c = t := HT2.out.symm
              subst hct
              by_cases h0 : c = 0
              · subst h0
                have hd1 : Hid (1 = d) := by have := Hd.out; unfold deg at this; rw [if_pos Hc.out] at this; exact this
                have hd2 := hd1.out
                subst hd2
                go_wp2
                go_ret
                exact yes_mk rfl (below_next B7 (below_drewN _ _))
              · have hd1 : Hid ((p : Int) * (q : Int) = d) := by have := Hd.out; unfold deg at this; rw [if_neg (by rw [Hc.out]; exact h0), LX.out, LY.out, Int.natCast_mul] at this; exact this
                have hd2 := hd1.out
                subst hd2
                have hc0 : ((c : Int) == 0) = false := beq_eq_false_iff_ne.2 (by omega)
                go_wp2
                go_ret
                exact yes_mk rfl (below_next B7 (below_drewN _ _))
      · have k1' : (65536 : Int) < n1 := by omega
        go_wp2_with fail
        go_ret
        exact yes_mk rfl (Below.refl _ _)
    · have k0' : (65536 : Int) < n0 := by omega
      go_wp2_with fail
      go_ret
      exact yes_mk rfl (Below.refl _ _)

end Go.Proofs.Qxb6600130a
