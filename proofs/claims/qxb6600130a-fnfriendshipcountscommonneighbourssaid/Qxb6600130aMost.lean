/-
  FnFriendshipAtMostOneExactlyOneForEqualNeighbours: the walk.
-/
import Derived.Test.Qxb6600130aBytes
import Derived.Test.Qxb6600130aClone
import Derived.Test.Qxb6600130aNode
import Derived.Test.Qxb6600130aSmall
import Derived.Test.Qxb6600130aSym
namespace Go.Proofs.Qxb6600130a
open Go.RowKit
set_option linter.unusedVariables false

theorem Sl.cut {w : World} {a : Option Addr} {n : Nat} {N : List Int} (h : Sl w a n N) (l r : Nat) (h1 : l ≤ r) (h2 : r ≤ n) : Sl w (if n = l then a else Option.map (fun x => x.add l) a) (r - l) ((N.drop l).take (r - l)) := by
  have hl := h.len
  by_cases he : r = l
  · subst he
    exact ⟨by simp, .inl (Nat.sub_self _)⟩
  · rw [if_neg (by omega)]
    rcases h.cells with h0 | ⟨b, off, rfl, hc⟩
    · omega
    · have e1 : Option.map (fun x : Addr => x.add l) (some ⟨b, off, none⟩) = some ⟨b, off + l, none⟩ := by
        simp only [Option.map_some, Addr.add]
        split
        · rename_i e; subst e; rfl
        · rfl
      rw [e1]
      exact h.sub l (r - l) (by omega)

/-- What the law's tests come to. -/
theorem most_facts (xs ys : List Int) (c p q : Nat) (d : Int) (h : Pl.Asc xs ∧ xs.length = p ∧ Pl.Asc ys ∧ ys.length = q) (hc : Pl.cnt xs ys = c) (hd : deg xs ys = d) (hp : p ≤ 65536) (hq : q ≤ 65536) :
    (d == 0) = false ∧ (c : Int) ≤ (p : Int) ∧ (c : Int) ≤ (q : Int) ∧ (c : Int) * (c : Int) ≤ d ∧ (c : Int) * (c : Int) ≤ 4294967296 := by
  obtain ⟨ax, lx, ay, ly⟩ := h
  have c1 := Pl.cnt_le_left xs ys
  have c2 := Pl.cnt_le_right xs ys ax ay
  rw [hc, lx] at c1
  rw [hc, ly] at c2
  have c3 : c * c ≤ p * q := Nat.mul_le_mul c1 c2
  have c4 : p * q ≤ 65536 * 65536 := Nat.mul_le_mul hp hq
  have c5 : (c : Int) * (c : Int) = ((c * c : Nat) : Int) := (Int.natCast_mul c c).symm
  unfold deg at hd
  rw [hc, lx, ly] at hd
  by_cases h0 : c = 0
  · rw [if_pos h0] at hd
    subst h0
    subst hd
    refine ⟨by decide, by omega, by omega, by decide, by decide⟩
  · rw [if_neg h0] at hd
    have c6 : 1 * 1 ≤ c * c := Nat.mul_le_mul (by omega) (by omega)
    refine ⟨beq_eq_false_iff_ne.2 (by omega), by omega, by omega, by rw [c5]; omega, by rw [c5]; omega⟩

theorem most_yes (xs ys : List Int) (c p q : Nat) (d : Int) (h : Pl.Asc xs ∧ xs.length = p ∧ Pl.Asc ys ∧ ys.length = q) (hc : Pl.cnt xs ys = c) (hd : deg xs ys = d) (hp : 0 < p) (hxy : xs = ys) : ((c : Int) * (c : Int) == d) = true := by
  obtain ⟨ax, lx, ay, ly⟩ := h
  subst hxy
  unfold deg at hd
  rw [Pl.has_self] at hc hd
  rw [if_neg (by omega)] at hd
  rw [← hd, ← hc, Int.natCast_mul]
  simp

theorem most_no (xs ys : List Int) (c p q : Nat) (d : Int) (h : Pl.Asc xs ∧ xs.length = p ∧ Pl.Asc ys ∧ ys.length = q) (hc : Pl.cnt xs ys = c) (hd : deg xs ys = d) (hp : 0 < p) (hxy : ¬ xs = ys) : ((c : Int) * (c : Int) == d) = false := by
  obtain ⟨ax, lx, ay, ly⟩ := h
  rw [beq_eq_false_iff_ne]
  intro e
  unfold deg at hd
  rw [hc] at hd
  by_cases h0 : c = 0
  · rw [if_pos h0] at hd
    subst h0
    subst hd
    revert e
    decide
  · rw [if_neg h0] at hd
    rw [← hd, ← Int.natCast_mul] at e
    exact hxy (Pl.cnt_sq xs ys ax ay (by rw [hc]; omega) (by omega))

theorem most_none (xs ys : List Int) (c p q : Nat) (d : Int) (h : Pl.Asc xs ∧ xs.length = p ∧ Pl.Asc ys ∧ ys.length = q) (hc : Pl.cnt xs ys = c) (hd : deg xs ys = d) (hp : ¬ 0 < p) : ((c : Int) * (c : Int) == d) = false := by
  obtain ⟨ax, lx, ay, ly⟩ := h
  have e : xs = [] := List.length_eq_zero_iff.1 (by omega)
  subst e
  unfold deg at hd
  rw [Pl.cnt_nil_left] at hc hd
  subst hc
  simp at hd
  subst hd
  decide

set_option maxHeartbeats 1000000 in
theorem most_any (a0 a1 : Option Addr) (n0 c0 n1 c1 : Nat) (F N : List Int) (u v : Int) (w : World) (h0 : Sl w a0 n0 F) (h1 : Sl w a1 n1 N) (m0 : n0 ≤ maxLen) (m1 : n1 ≤ maxLen) (z0 : a0 = none → n0 = 0 ∧ c0 = 0) (z1 : a1 = none → n1 = 0 ∧ c1 = 0) :
    Calls Try.prog 5 #[.slice a0 n0 c0, .slice a1 n1 c1, .int .i64 u, .int .i64 v] w fun e w' => Yes w e w' := by
  go_enter Try.func5, Try.ntmps5
  go_wp2_with fail
  refine (bytes19 a0 a1 n0 c0 n1 c1 u v _ m0 m1).mono ?_
  rintro e w1 ⟨b, rfl, rfl⟩
  cases b with
  | false =>
    go_wp2_with fail
    go_ret
    exact yes_mk rfl (Below.refl _ _)
  | true =>
    by_cases k0 : n0 ≤ 65536
    · by_cases k1 : n1 ≤ 65536
      · go_wp2_with fail
        refine (graph_any a0 a1 n0 c0 n1 c1 F N u v _ h0 h1 k0 k1).mono ?_
        rintro e w2 ⟨b, rfl, hfit, hb2⟩
        cases b with
        | false =>
          go_wp2_with fail
          go_ret
          exact yes_mk rfl hb2
        | true =>
          have fit := hfit rfl
          clear hfit
          obtain ⟨i, rfl⟩ := Int.eq_ofNat_of_zero_le fit.u.1
          obtain ⟨j, rfl⟩ := Int.eq_ofNat_of_zero_le fit.v.1
          have hi : i + 1 < n0 := by have := fit.u.2; rw [h0.len] at this; omega
          have hj : j + 1 < n0 := by have := fit.v.2; rw [h0.len] at this; omega
          obtain ⟨p, xs, nx⟩ := node_of_fits F N n0 n1 _ _ fit h0.len h1.len i hi
          obtain ⟨q, ys, ny⟩ := node_of_fits F N n0 n1 _ _ fit h0.len h1.len j hj
          have s0 := h0.keep hb2
          have s1 := h1.keep hb2
          clear fit
          go_wp2_with fail
          refine (clone_any a0 n0 c0 F _ s0 k0 z0).mono ?_
          rintro e w3 ⟨d0, rfl, o0, hb3⟩
          have s1' := s1.keep hb3
          go_wp2_with fail
          refine (clone_any a1 n1 c1 N _ s1' k1 z1).mono ?_
          rintro e w4 ⟨d1, rfl, o1, hb4⟩
          have t0 := (o0.keep hb4).sl' h0.len
          have t1 := o1.sl' h1.len
          go_wp2_with fail
          refine (newgr_any d0 d1 n0 n1 _).mono ?_
          rintro e w5 ⟨G, rfl, g1, g2, hb5⟩
          have gr : Gr w5 G d0 n0 F d1 n1 N := ⟨g1, g2, t0.keep hb5, t1.keep hb5⟩
          have B5 := below_next (below_next (below_next hb2 hb3) hb4) hb5
          have T0 := t0.keep hb5
          have T1 := t1.keep hb5
          clear g1 g2 t0 t1 o0 o1 s0 s1 s1' h0 h1 z0 z1 hb2 hb3 hb4 hb5
          go_wp2_with fail
          refine (friend_any G d0 d1 n0 n1 F N i j p q xs ys _ gr k0 k1 nx ny).mono ?_
          rintro e w6 ⟨rfl, hb6⟩
          obtain ⟨c, Hc⟩ : ∃ c : Nat, Hid (Pl.cnt xs ys = c) := ⟨_, rfl⟩
          obtain ⟨d, Hd⟩ : ∃ d : Int, Hid (deg xs ys = d) := ⟨_, rfl⟩
          rw [Hc.out, Hd.out]
          go_wp2_with fail
          refine (parts_any c d _).mono ?_
          rintro e w7 ⟨rfl, hb7⟩
          have B7 := below_next (below_next B5 hb6) hb7
          have U0 := (T0.keep hb6).keep hb7
          have U1 := (T1.keep hb6).keep hb7
          clear gr B5 hb6 hb7 T0 T1
          obtain ⟨lx, hx, ex1, ex2, ex3, ex4, ex5, ex6⟩ := nx.ex
          obtain ⟨ly, hy, ey1, ey2, ey3, ey4, ey5, ey6⟩ := ny.ex
          rcases U0.cells with hh | ⟨b0, off0, rfl, hc0⟩
          · omega
          have f1 : w7.cell? ⟨b0, off0 + i, none⟩ = some (.int .i64 lx) := by rw [hc0 i (by omega), ex1]
          have f2 : w7.cell? ⟨b0, off0 + (i + 1), none⟩ = some (.int .i64 hx) := by rw [hc0 (i + 1) (by omega), ex2]
          have f3 : w7.cell? ⟨b0, off0 + j, none⟩ = some (.int .i64 ly) := by rw [hc0 j (by omega), ey1]
          have f4 : w7.cell? ⟨b0, off0 + (j + 1), none⟩ = some (.int .i64 hy) := by rw [hc0 (j + 1) (by omega), ey2]
          have g1 : (i : Int) + 1 < (n0 : Int) := by omega
          have g2 : (j : Int) + 1 < (n0 : Int) := by omega
          have g3 : (lx : Int) ≤ (hx : Int) := by omega
          have g4 : (hx : Int) ≤ (n1 : Int) := by omega
          have g5 : (ly : Int) ≤ (hy : Int) := by omega
          have g6 : (hy : Int) ≤ (n1 : Int) := by omega
          clear hc0 ex1 ex2 ey1 ey2
          have EX5 : Hid (hx - lx = p) := ex5
          have EX6 : Hid ((N.drop lx).take (hx - lx) = xs) := ex6
          have EY5 : Hid (hy - ly = q) := ey5
          have EY6 : Hid ((N.drop ly).take (hy - ly) = ys) := ey6
          clear ex5 ex6 ey5 ey6
          have SX := U1.cut lx hx ex3 ex4
          rw [EX6.out, EX5.out] at SX
          have SY := U1.cut ly hy ey3 ey4
          rw [EY6.out, EY5.out] at SY
          have HX : Hid (Pl.Asc xs ∧ xs.length = p ∧ Pl.Asc ys ∧ ys.length = q) := ⟨nx.asc, nx.len, ny.asc, ny.len⟩
          have bp := nx.le
          have bq := ny.le
          obtain ⟨q1, q2, q3, q4, q5⟩ := most_facts xs ys c p q d HX.out Hc.out Hd.out (Nat.le_trans bp k1) (Nat.le_trans bq k1)
          have q6 : 0 ≤ (c : Int) * (c : Int) := Int.mul_nonneg (by omega) (by omega)
          clear nx ny U0 U1 hi hj
          go_wp2
          go_quiet (fail)
          generalize (if n1 = lx then d1 else Option.map (fun x => x.add lx) d1) = ax at SX ⊢
          rw [EX5.out]
          go_wp2
          go_quiet (fail)
          generalize (if n1 = ly then d1 else Option.map (fun x => x.add ly) d1) = ay at SY ⊢
          rw [EY5.out]
          clear EX5 EX6 EY5 EY6 f1 f2 f3 f4 g1 g2 g3 g4 g5 g6 ex3 ex4 ey3 ey4
          by_cases hp : 0 < p
          · by_cases hxy : xs = ys
            · have r1 : ((c : Int) * (c : Int) == d) = true := most_yes xs ys c p q d HX.out Hc.out Hd.out hp hxy
              have r2 : Hid (eqB xs ys = true) := eqB_yes hxy
              clear hxy
              go_wp2_with fail
              refine (eqInts_any ax ay p q _ _ xs ys _ (SX.keep (below_drewN _ _)) (SY.keep (below_drewN _ _)) (Nat.le_trans bp k1) (Nat.le_trans bq k1)).mono ?_
              rintro e w8 ⟨rfl, m8, rfl⟩
              rw [r2.out]
              go_wp2_with fail
              go_ret
              exact yes_mk rfl (below_next B7 (below_drewN _ _))
            · have r1 : ((c : Int) * (c : Int) == d) = false := most_no xs ys c p q d HX.out Hc.out Hd.out hp hxy
              have r2 : Hid (eqB xs ys = false) := eqB_no hxy
              clear hxy
              go_wp2_with fail
              refine (eqInts_any ax ay p q _ _ xs ys _ (SX.keep (below_drewN _ _)) (SY.keep (below_drewN _ _)) (Nat.le_trans bp k1) (Nat.le_trans bq k1)).mono ?_
              rintro e w8 ⟨rfl, m8, rfl⟩
              rw [r2.out]
              go_wp2_with fail
              go_ret
              exact yes_mk rfl (below_next B7 (below_drewN _ _))
          · have r1 : ((c : Int) * (c : Int) == d) = false := most_none xs ys c p q d HX.out Hc.out Hd.out hp
            go_wp2_with fail
            go_ret
            exact yes_mk rfl (below_next B7 (below_drewN _ _))
      · have k1' : (65536 : Int) < n1 := by omega
        go_wp2_with fail
        go_ret
        exact yes_mk rfl (Below.refl _ _)
    · have k0' : (65536 : Int) < n0 := by omega
      go_wp2_with fail
      go_ret
      exact yes_mk rfl (Below.refl _ _)

end Go.Proofs.Qxb6600130a
