/-
  From 'graphFits says yes' to the two nodes' neighbours; ZZNewTrustGraph.
-/
import Derived.Test.Qxb6600130aGraph
import Derived.Test.Qxb6600130aFriend
namespace Go.Proofs.Qxb6600130a
open Go.RowKit

theorem node_of_fits (F N : List Int) (n0 n1 : Nat) (u v : Int) (h : Fits F N u v) (h0 : F.length = n0) (h1 : N.length = n1) (i : Nat) (hi : i + 1 < n0) : ∃ p xs, Node F N n0 n1 i p xs := by
  have c1 := Pl.chain F h.mono 0 i (by omega) (by omega)
  have c2 := h.mono i (by omega)
  have c3 := Pl.chain F h.mono (i + 1) (F.length - 1) (by omega) (by omega)
  have c4 := h.last
  have c5 := h.pos
  obtain ⟨lo, elo⟩ := Int.eq_ofNat_of_zero_le (show 0 ≤ F.getD i 0 by omega)
  obtain ⟨hi', ehi⟩ := Int.eq_ofNat_of_zero_le (show 0 ≤ F.getD (i + 1) 0 by omega)
  have hl : ((N.drop lo).take (hi' - lo)).length = hi' - lo := by simp; omega
  refine ⟨hi' - lo, (N.drop lo).take (hi' - lo), hi, ⟨lo, hi', elo, ehi, by omega, by omega, rfl, rfl⟩, ?_, hl, by omega⟩
  apply Pl.asc_of_adj
  intro k hk
  rw [hl] at hk
  have a := h.asc i (by omega) (lo + k) (by omega) (by omega)
  have e1 : ((N.drop lo).take (hi' - lo)).getD k 0 = N.getD (lo + k) 0 := by
    rw [getD_take _ _ _ (by omega)]; simp [List.getD]
  have e2 : ((N.drop lo).take (hi' - lo)).getD (k + 1) 0 = N.getD (lo + k + 1) 0 := by
    rw [getD_take _ _ _ (by omega)]; simp [List.getD, Nat.add_assoc]
  rw [e1, e2]
  exact a

/-- A pointer to a new graph. -/
def NewGr (w : World) (v0 v1 : Value) (e : Ending) (w' : World) : Prop := ∃ G, e = .returned (.pointer (some ⟨G, 0, none⟩)) ∧ w'.cell? ⟨G, 1, none⟩ = some v0 ∧ w'.cell? ⟨G, 2, none⟩ = some v1 ∧ Below w.heap.size w w'

theorem newgr_mk {w w' : World} {v0 v1 : Value} {e : Ending} (G : Nat) (h1 : e = .returned (.pointer (some ⟨G, 0, none⟩))) (h2 : w'.cell? ⟨G, 1, none⟩ = some v0) (h3 : w'.cell? ⟨G, 2, none⟩ = some v1) (h4 : Below w.heap.size w w') : NewGr w v0 v1 e w' := ⟨G, h1, h2, h3, h4⟩

theorem newgr_any (a0 a1 : Option Addr) (n0 n1 : Nat) (w : World) : Calls Try.prog 14 #[.slice a0 n0 n0, .slice a1 n1 n1] w fun e w' => NewGr w (.slice a0 n0 n0) (.slice a1 n1 n1) e w' := by
  go_enter Try.func14, Try.ntmps14
  go_wp2
  go_ret
  exact newgr_mk w.heap.size rfl (by simp) (by simp) ((Below.refl _ _).alloc (Nat.le_refl _) _)

theorem deg_comm (xs ys : List Int) (hx : Pl.Asc xs) (hy : Pl.Asc ys) : deg xs ys = deg ys xs := by
  unfold deg
  rw [Pl.cnt_comm xs ys hx hy, Nat.mul_comm]

end Go.Proofs.Qxb6600130a
