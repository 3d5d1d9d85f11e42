/-
  cloneInts: a new row of the same numbers; nil of nil.
-/
import Derived.Test.Qxb6600130aBase
namespace Go.Proofs.Qxb6600130a
open Go.RowKit

theorem clone_nil (w : World) : Calls Try.prog 13 #[.slice none 0 0] w fun e w' => ∃ a', e = .returned (.slice a' 0 0) ∧ Own w' a' [] w.heap.size ∧ Below w.heap.size w w' := by
  have q22 : ∀ (w : World) (a : Option Addr) (n c n' c' : Nat), (binOp .eql 22 (.slice a n c) (.slice none n' c')).run Try.prog w = .ok (.bool a.isNone) w := fun w a n c n' c' => Lib.run_eql_slice_nil w _ _ a n c n' c' Try.underlying22
  go_enter Try.func13, Try.ntmps13
  go_wp2
  go_ret
  exact ⟨none, rfl, .inl ⟨rfl, rfl⟩, Below.refl _ _⟩

/-- The row behind k rounds. -/
def part (zs : List Int) (k : Nat) : List Int := zs.take k ++ List.replicate (zs.length - k) 0

theorem part_length (zs : List Int) (k : Nat) (hk : k ≤ zs.length) : (part zs k).length = zs.length := by
  unfold part; simp; omega
theorem part_zero (zs : List Int) : part zs 0 = List.replicate zs.length 0 := by simp [part]
theorem part_all (zs : List Int) : part zs zs.length = zs := by simp [part]
theorem part_set (zs : List Int) (k : Nat) (hk : k < zs.length) : (part zs k).set k (zs.getD k 0) = part zs (k + 1) := by
  unfold part
  have e : zs.length - k = (zs.length - (k + 1)) + 1 := by omega
  rw [e, List.replicate_succ, List.set_append_right _ _ (by simp; omega)]
  have e2 : k - (zs.take k).length = 0 := by simp; omega
  have e3 : zs.getD k 0 = zs[k] := by simp [List.getD, hk]
  rw [e2, List.set_cons_zero, List.take_succ_eq_append_getElem hk, e3, List.append_assoc]
  rfl

theorem clone_some (x : Addr) (n c : Nat) (zs : List Int) (w : World) (hs : Sl w (some x) n zs) (hn : n ≤ 65536) :
    Calls Try.prog 13 #[.slice (some x) n c] w fun e w' => ∃ a', e = .returned (.slice a' n n) ∧ Own w' a' zs w.heap.size ∧ Below w.heap.size w w' := by
  have q22 : ∀ (w : World) (a : Option Addr) (n c n' c' : Nat), (binOp .eql 22 (.slice a n c) (.slice none n' c')).run Try.prog w = .ok (.bool a.isNone) w := fun w a n c n' c' => Lib.run_eql_slice_nil w _ _ a n c n' c' Try.underlying22
  obtain ⟨i0, hi, hz0, hz1, hz2⟩ := info_parts info3
  go_enter Try.func13, Try.ntmps13
  go_wp2_with (at_make; refine wpList_make_full _ rfl _ _ 22 rfl w.heap.size 3 i0 (.int .i64 0) 1 Try.underlying22 hi hz0 hz1 .i64 .i64 _ _ n rfl rfl rfl rfl (by rw [hz2]; omega) (by unfold maxLen; omega) (Nat.le_refl _) ?_; intro w1 hown1 hgrow1)
  have hr := row_of_made hown1
  have hb := Below.grown (Below.refl w.heap.size w) hgrow1 (Nat.le_refl _) (fun k hk => by cases hk)
  clear hown1 hgrow1 hi hz0 hz1 hz2
  have hlen := hs.len
  have HL : Hid (zs.length = n) := hlen
  clear hlen
  go_loopw [4] (fun i wr => ∃ k : Nat, k ≤ n ∧ i = .int .i64 k ∧ Row wr w.heap.size (part zs k) ∧ Below w.heap.size w wr) (fun i _ => n - (intOf i).toNat)
  case atStart => exact ⟨0, Nat.zero_le _, rfl, by rw [part_zero, HL.out]; exact hr, hb⟩
  case round =>
    obtain ⟨k, hk, rfl, hrow, hbel⟩ := hrel
    by_cases hlt : k < n
    · rcases hs.cells with h0 | ⟨b, off, hx, hc⟩
      · omega
      · injection hx with hx
        subst hx
        have h1 := cell_later hbel (hc k hlt)
        have h2 := hrow.cell k (by rw [part_length zs k (by rw [HL.out]; exact hk), HL.out]; exact hlt)
        have h3 := hrow.frozen k
        have h4 := hrow.stored k (zs.getD k 0)
        rw [part_set zs k (by rw [HL.out]; exact hlt)] at h4
        have h5 : Below w.heap.size w (wr.setCell ⟨w.heap.size, k, none⟩ (.int .i64 (zs.getD k 0))) := hbel.setCell (Nat.le_refl _) _
        have H4 : Hid (Row (wr.setCell ⟨w.heap.size, k, none⟩ (.int .i64 (zs.getD k 0))) w.heap.size (part zs (k + 1))) := h4
        clear h4 hc
        go_wp2
        go_roundw
        case rel => exact ⟨k + 1, by omega, by go_num, H4.out, h5⟩
        case measure => simp [intOf]; omega
    · go_wp2
      go_ret
      have e : k = n := by omega
      subst e
      refine ⟨_, rfl, .inr ⟨w.heap.size, rfl, Nat.le_refl _, ?_⟩, hbel⟩
      rw [← HL.out, part_all] at hrow
      exact hrow

theorem clone_any (a : Option Addr) (n c : Nat) (zs : List Int) (w : World) (hs : Sl w a n zs) (hn : n ≤ 65536) (hnil : a = none → n = 0 ∧ c = 0) :
    Calls Try.prog 13 #[.slice a n c] w fun e w' => ∃ a', e = .returned (.slice a' n n) ∧ Own w' a' zs w.heap.size ∧ Below w.heap.size w w' := by
  cases a with
  | none =>
    obtain ⟨rfl, rfl⟩ := hnil rfl
    have e : zs = [] := List.length_eq_zero_iff.1 hs.len
    subst e
    exact clone_nil w
  | some x => exact clone_some x n c zs w hs hn

end Go.Proofs.Qxb6600130a
