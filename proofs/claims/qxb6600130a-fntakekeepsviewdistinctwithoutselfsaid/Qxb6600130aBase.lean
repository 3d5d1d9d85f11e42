/-
  WHAT THE WALKS SAY OF MEMORY: a slice of integers that can be read ('Sl'); a row of the call's own ('Row', 'Own'); and how both last.
-/
import Derived.Test.Qxb6600130aProg
import Derived.Test.Qxb6600130aPlain
import Derived.WalkKit
import Derived.WalkSpells
import Derived.Deep.Draws
namespace Go.Proofs.Qxb6600130a
open Go.RowKit

theorem info3 : (Try.prog.info? 3).map (fun i => (i.zero, i.size, i.bytes)) = some (some (.int .i64 0), 1, 8) := by kernel_rfl

/-- The slice of n elements at a reads as zs. -/
structure Sl (w : World) (a : Option Addr) (n : Nat) (zs : List Int) : Prop where
  len : zs.length = n
  cells : n = 0 ∨ ∃ b off, a = some ⟨b, off, none⟩ ∧ ∀ i, i < n → w.cell? ⟨b, off + i, none⟩ = some (.int .i64 (zs.getD i 0))

/-- Block g is a row of these numbers, not frozen. -/
def Row (w : World) (g : Nat) (zs : List Int) : Prop := w.heap[g]? = some (.cells (zs.map (Value.int .i64)).toArray 3 (0, 0))

/-- The slice at a is nil and empty, or the head of a row from block 'base' on. -/
def Own (w : World) (a : Option Addr) (zs : List Int) (base : Nat) : Prop := (a = none ∧ zs = []) ∨ ∃ g, a = some ⟨g, 0, none⟩ ∧ base ≤ g ∧ Row w g zs

theorem Row.cell {w : World} {g : Nat} {zs : List Int} (h : Row w g zs) (i : Nat) (hi : i < zs.length) : w.cell? ⟨g, i, none⟩ = some (.int .i64 (zs.getD i 0)) := by
  unfold Row at h
  simp [World.cell?, h, hi]

theorem Row.frozen {w : World} {g : Nat} {zs : List Int} (h : Row w g zs) (i : Nat) : w.frozen? ⟨g, i, none⟩ = false := by
  unfold Row at h
  simp [World.frozen?, h]

theorem Row.lt {w : World} {g : Nat} {zs : List Int} (h : Row w g zs) : g < w.heap.size := by
  unfold Row at h
  rcases Nat.lt_or_ge g w.heap.size with h1 | h1
  · exact h1
  · rw [Array.getElem?_eq_none h1] at h
    simp at h

theorem Row.stored {w : World} {g : Nat} {zs : List Int} (h : Row w g zs) (i : Nat) (x : Int) : Row (w.setCell ⟨g, i, none⟩ (.int .i64 x)) g (zs.set i x) := by
  have hlt := h.lt
  unfold Row at h ⊢
  simp only [World.setCell, Array.getElem?_modify, if_true, h]
  simp [List.map_set]

theorem Row.keep {w w' : World} {g : Nat} {zs : List Int} (h : Row w g zs) (hk : w'.heap[g]? = w.heap[g]?) : Row w' g zs := by
  unfold Row at h ⊢
  rw [hk]; exact h

theorem Row.below {w w' : World} {g B : Nat} {zs : List Int} (h : Row w g zs) (hb : Below B w w') (hg : g < B) : Row w' g zs := h.keep (hb.block g hg)

theorem Row.sl {w : World} {g : Nat} {zs : List Int} (h : Row w g zs) : Sl w (some ⟨g, 0, none⟩) zs.length zs :=
  ⟨rfl, .inr ⟨g, 0, rfl, fun i hi => by rw [Nat.zero_add]; exact h.cell i hi⟩⟩

theorem Own.sl {w : World} {a : Option Addr} {zs : List Int} {base : Nat} (h : Own w a zs base) : Sl w a zs.length zs := by
  rcases h with ⟨rfl, rfl⟩ | ⟨g, rfl, _, hr⟩
  · exact ⟨rfl, .inl rfl⟩
  · exact hr.sl

theorem Own.sl' {w : World} {a : Option Addr} {zs : List Int} {base n : Nat} (h : Own w a zs base) (hn : zs.length = n) : Sl w a n zs := by
  subst hn; exact h.sl

theorem Own.keep {w w' : World} {a : Option Addr} {zs : List Int} {base : Nat} (h : Own w a zs base) (hb : Below w.heap.size w w') : Own w' a zs base := by
  rcases h with h | ⟨g, rfl, hg, hr⟩
  · exact .inl h
  · exact .inr ⟨g, rfl, hg, hr.below hb hr.lt⟩

theorem Sl.keep {w w' : World} {a : Option Addr} {n : Nat} {zs : List Int} (h : Sl w a n zs) (hb : Below w.heap.size w w') : Sl w' a n zs := by
  refine ⟨h.len, ?_⟩
  rcases h.cells with h0 | ⟨b, off, ha, hc⟩
  · exact .inl h0
  · exact .inr ⟨b, off, ha, fun i hi => cell_later hb (hc i hi)⟩

theorem below_next {w1 w2 w3 : World} (h : Below w1.heap.size w1 w2) (k : Below w2.heap.size w2 w3) : Below w1.heap.size w1 w3 := h.trans (k.mono h.size)

theorem below_drewN (w : World) (n : Nat) : Below w.heap.size w (w.drewN n) := ⟨rfl, rfl, rfl, Nat.le_refl _, fun _ _ => rfl⟩

/-- A slice that came in, of a row that the shell describes. -/
theorem sl_of_row {w : World} {x : Addr} {len cap : Nat} {zs : List Int} (hl : len ≤ cap) (hz : zs.length = cap) (hc : ∀ i, i < zs.length → w.cell? (x.add i) = some (.int .i64 (zs.getD i 0))) : Sl w (some x) len (zs.take len) := by
  refine ⟨by simp; omega, ?_⟩
  by_cases h0 : len = 0
  · exact .inl h0
  · right
    obtain ⟨b, off, spot⟩ := x
    have hspot : spot = none := by simpa [Addr.add] using World.cell?_spot (hc 0 (by omega))
    subst hspot
    refine ⟨b, off, rfl, fun i hi => ?_⟩
    have h1 := hc i (by omega)
    have e1 : (Addr.mk b off none).add i = ⟨b, off + i, none⟩ := by
      unfold Addr.add
      split
      · rename_i e; subst e; rfl
      · rfl
    rw [e1] at h1
    rw [h1]
    simp [List.getD, hi]

theorem getD_take (zs : List Int) (k i : Nat) (h : i < k) : (zs.take k).getD i 0 = zs.getD i 0 := by
  simp [List.getD, h]

/-- What 'make' lays, as a row. -/
theorem row_of_made {w : World} {base g n : Nat} (h : w.ownsRow base 3 1 (.slice (some ⟨g, 0, none⟩) n n) n (madeCells (Value.int .i64 0).cells (n * 1)).toList) : Row w g (List.replicate n 0) := by
  rcases h.2 with ⟨h', _⟩ | ⟨g', cap', cur, h', _, hg, _, _, hcs, htake⟩
  · simp at h'
  · simp only [Value.slice.injEq, Option.some.injEq, Addr.mk.injEq, and_true, true_and] at h'
    obtain ⟨rfl, rfl⟩ := h'
    unfold Row
    rw [hg]
    have e : cur.toList = List.replicate n (Value.int .i64 0) := by
      rw [List.take_of_length_le (by rw [Array.length_toList, hcs]; exact Nat.le_refl _)] at htake
      rw [htake]
      have := toList_madeCells_one (Value.int .i64 0) (n * 1)
      simpa [Value.cells] using this
    have e2 : cur = (List.replicate n (Value.int .i64 0)).toArray := by
      rw [← e]
    rw [e2]
    simp

end Go.Proofs.Qxb6600130a
