/-
  FnFriendshipIsSymmetric: the walk.
-/
import Derived.Test.Qxb6600130aBytes
import Derived.Test.Qxb6600130aClone
import Derived.Test.Qxb6600130aNode
namespace Go.Proofs.Qxb6600130a
open Go.RowKit

/-- It returns true, and nothing that was there has turned. -/
def Yes (w : World) (e : Ending) (w' : World) : Prop := e = .returned (.bool true) ∧ Below w.heap.size w w'
theorem yes_mk {w w' : World} {e : Ending} (h1 : e = .returned (.bool true)) (h2 : Below w.heap.size w w') : Yes w e w' := ⟨h1, h2⟩

theorem friend_sym (G : Nat) (a0 a1 : Option Addr) (n0 n1 : Nat) (F N : List Int) (i j p q : Nat) (xs ys : List Int) (w : World) (hg : Gr w G a0 n0 F a1 n1 N) (hn0 : n0 ≤ 65536) (hn1 : n1 ≤ 65536)
    (hx : Node F N n0 n1 i p xs) (hy : Node F N n0 n1 j q ys) :
    Calls Try.prog 16 #[.pointer (some ⟨G, 0, none⟩), .int .i64 j, .int .i64 i] w fun e w' => Pair w (Pl.cnt xs ys) (deg xs ys) e w' := by
  rw [Pl.cnt_comm xs ys hx.asc hy.asc, deg_comm xs ys hx.asc hy.asc]
  exact friend_any G a0 a1 n0 n1 F N j i q p ys xs w hg hn0 hn1 hy hx

set_option maxHeartbeats 1000000 in
theorem sym_any (a0 a1 : Option Addr) (n0 c0 n1 c1 : Nat) (F N : List Int) (u v : Int) (w : World) (h0 : Sl w a0 n0 F) (h1 : Sl w a1 n1 N) (m0 : n0 ≤ maxLen) (m1 : n1 ≤ maxLen) (z0 : a0 = none → n0 = 0 ∧ c0 = 0) (z1 : a1 = none → n1 = 0 ∧ c1 = 0) :
    Calls Try.prog 4 #[.slice a0 n0 c0, .slice a1 n1 c1, .int .i64 u, .int .i64 v] w fun e w' => Yes w e w' := by
  go_enter Try.func4, Try.ntmps4
  go_wp2_with fail
  refine (bytes18 a0 a1 n0 c0 n1 c1 u v _ m0 m1).mono ?_
  rintro e w1 ⟨b, rfl, rfl⟩
  cases b with
  | false =>
    go_wp2_with fail
    go_ret
    exact yes_mk rfl (Below.refl _ _)
  | true =>
    by_cases k0 : n0 ≤ 65536
    · by_cases k1 : n1 ≤ 65536
      · go_wp2_with fail
        refine (graph_any a0 a1 n0 c0 n1 c1 F N u v _ h0 h1 k0 k1).mono ?_
        rintro e w2 ⟨b, rfl, hfit, hb2⟩
        cases b with
        | false =>
          go_wp2_with fail
          go_ret
          exact yes_mk rfl hb2
        | true =>
          have fit := hfit rfl
          clear hfit
          obtain ⟨i, rfl⟩ := Int.eq_ofNat_of_zero_le fit.u.1
          obtain ⟨j, rfl⟩ := Int.eq_ofNat_of_zero_le fit.v.1
          have hi : i + 1 < n0 := by have := fit.u.2; rw [h0.len] at this; omega
          have hj : j + 1 < n0 := by have := fit.v.2; rw [h0.len] at this; omega
          obtain ⟨p, xs, nx⟩ := node_of_fits F N n0 n1 _ _ fit h0.len h1.len i hi
          obtain ⟨q, ys, ny⟩ := node_of_fits F N n0 n1 _ _ fit h0.len h1.len j hj
          have s0 := h0.keep hb2
          have s1 := h1.keep hb2
          clear fit
          go_wp2_with fail
          refine (clone_any a0 n0 c0 F _ s0 k0 z0).mono ?_
          rintro e w3 ⟨d0, rfl, o0, hb3⟩
          have s1' := s1.keep hb3
          go_wp2_with fail
          refine (clone_any a1 n1 c1 N _ s1' k1 z1).mono ?_
          rintro e w4 ⟨d1, rfl, o1, hb4⟩
          have t0 := (o0.keep hb4).sl' h0.len
          have t1 := o1.sl' h1.len
          go_wp2_with fail
          refine (newgr_any d0 d1 n0 n1 _).mono ?_
          rintro e w5 ⟨G, rfl, g1, g2, hb5⟩
          have gr : Gr w5 G d0 n0 F d1 n1 N := ⟨g1, g2, t0.keep hb5, t1.keep hb5⟩
          have B5 := below_next (below_next (below_next hb2 hb3) hb4) hb5
          clear g1 g2 t0 t1 o0 o1 s0 s1 s1' h0 h1 z0 z1 hb2 hb3 hb4 hb5
          go_wp2_with fail
          refine (friend_any G d0 d1 n0 n1 F N i j p q xs ys _ gr k0 k1 nx ny).mono ?_
          rintro e w6 ⟨rfl, hb6⟩
          go_wp2_with fail
          refine (friend_sym G d0 d1 n0 n1 F N i j p q xs ys _ (gr.keep (hb6.trans ((Below.refl _ _).alloc hb6.size _))) k0 k1 nx ny).mono ?_
          rintro e w8 ⟨rfl, hb8⟩
          have v1 : w8.cell? ⟨w6.heap.size, 0, none⟩ = some (.int .u64 (Pl.cnt xs ys : Int)) := cell_later hb8 (by simp)
          have v2 : w8.cell? ⟨w6.heap.size, 1, none⟩ = some (.int .u64 (deg xs ys)) := cell_later hb8 (by simp)
          have v3 : w6.heap.size < w8.heap.size := by have := hb8.size; simp at this; omega
          have B8 := below_next (below_next B5 (hb6.trans ((Below.refl _ _).alloc hb6.size _))) hb8
          clear gr nx ny B5 hb6 hb8
          go_wp2
          go_ret
          exact yes_mk rfl (B8.alloc B8.size _)
      · have k1' : (65536 : Int) < n1 := by omega
        go_wp2_with fail
        go_ret
        exact yes_mk rfl (Below.refl _ _)
    · have k0' : (65536 : Int) < n0 := by omega
      go_wp2_with fail
      go_ret
      exact yes_mk rfl (Below.refl _ _)

end Go.Proofs.Qxb6600130a
