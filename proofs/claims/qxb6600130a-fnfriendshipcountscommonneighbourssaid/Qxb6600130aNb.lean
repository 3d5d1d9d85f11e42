/-
  (*TrustGraph).Neighbours, newFriendship.
-/
import Derived.Test.Qxb6600130aBase
import Derived.Deep.QuietTactic
import Derived.BigQuiet
namespace Go.Proofs.Qxb6600130a
open Go.RowKit
set_option linter.unusedVariables false

/-- Block G holds a graph: its offsets and its neighbours. -/
structure Gr (w : World) (G : Nat) (a0 : Option Addr) (n0 : Nat) (F : List Int) (a1 : Option Addr) (n1 : Nat) (N : List Int) : Prop where
  c1 : w.cell? ⟨G, 1, none⟩ = some (.slice a0 n0 n0)
  c2 : w.cell? ⟨G, 2, none⟩ = some (.slice a1 n1 n1)
  s0 : Sl w a0 n0 F
  s1 : Sl w a1 n1 N

theorem Gr.keep {w w' : World} {G : Nat} {a0 a1 : Option Addr} {n0 n1 : Nat} {F N : List Int} (h : Gr w G a0 n0 F a1 n1 N) (hb : Below w.heap.size w w') : Gr w' G a0 n0 F a1 n1 N :=
  ⟨cell_later hb h.c1, cell_later hb h.c2, h.s0.keep hb, h.s1.keep hb⟩

/-- A slice of what was there; the world is as it was, but for draws. -/
def Part (w : World) (d : Nat) (l : List Int) (e : Ending) (w' : World) : Prop := ∃ a m, e = .returned (.slice a d d) ∧ Sl w a d l ∧ w' = w.drewN m

theorem part_mk {w w' : World} {d : Nat} {l : List Int} {e : Ending} (a : Option Addr) (m : Nat) (h1 : e = .returned (.slice a d d)) (h2 : Sl w a d l) (h3 : w' = w.drewN m) : Part w d l e w' := ⟨a, m, h1, h2, h3⟩

theorem Sl.sub {w : World} {b off n : Nat} {N : List Int} (h : Sl w (some ⟨b, off, none⟩) n N) (l d : Nat) (hd : l + d ≤ n) : Sl w (some ⟨b, off + l, none⟩) d ((N.drop l).take d) := by
  have hl := h.len
  refine ⟨by simp; omega, ?_⟩
  rcases h.cells with h0 | ⟨b', off', ha, hc⟩
  · left; omega
  · injection ha with ha
    injection ha with h1 h2
    subst h1; subst h2
    right
    refine ⟨b, off + l, rfl, fun i hi => ?_⟩
    have e : off + l + i = off + (l + i) := by omega
    rw [e, hc (l + i) (by omega)]
    simp [List.getD, hi]

theorem Sl.empty {w : World} (a : Option Addr) : Sl w a 0 [] := ⟨rfl, .inl rfl⟩

set_option maxHeartbeats 1000000 in
theorem nb_any (G : Nat) (a0 a1 : Option Addr) (n0 n1 : Nat) (F N : List Int) (i lo hi : Nat) (w : World) (hg : Gr w G a0 n0 F a1 n1 N) (hn0 : n0 ≤ 65536) (hn1 : n1 ≤ 65536) (hi0 : i + 1 < n0) (hlo : F.getD i 0 = lo) (hhi : F.getD (i + 1) 0 = hi) (h1 : lo ≤ hi) (h2 : hi ≤ n1) :
    Calls Try.prog 45 #[.pointer (some ⟨G, 0, none⟩), .int .i64 i] w fun e w' => Part w (hi - lo) ((N.drop lo).take (hi - lo)) e w' := by
  rcases hg.s0.cells with hh | ⟨b0, off0, rfl, hc0⟩
  · omega
  have k1 : w.cell? ⟨b0, off0 + i, none⟩ = some (.int .i64 lo) := by rw [hc0 i (by omega), hlo]
  have k2 : w.cell? ⟨b0, off0 + (i + 1), none⟩ = some (.int .i64 hi) := by rw [hc0 (i + 1) (by omega), hhi]
  have g1 := hg.c1
  have g2 := hg.c2
  have b1 : (i : Int) + 1 < (n0 : Int) := by omega
  have b2 : (lo : Int) ≤ (hi : Int) := by omega
  have b3 : (hi : Int) ≤ (n1 : Int) := by omega
  clear hc0 hlo hhi
  by_cases he : hi = lo
  · have S0 : Sl w a1 0 [] := Sl.empty a1
    subst he
    clear h1 b2
    rw [Nat.sub_self, List.take_zero]
    go_enter Try.func45, Try.ntmps45
    go_wp2
    go_quiet (fail)
    go_wp2
    go_ret
    exact part_mk a1 _ rfl S0 rfl
  · rcases hg.s1.cells with hh | ⟨b1', off1, rfl, hc1⟩
    · omega
    have S1 := hg.s1.sub lo (hi - lo) (by omega)
    clear hc1 hg
    go_enter Try.func45, Try.ntmps45
    go_wp2
    go_quiet (fail)
    go_wp2
    go_ret
    exact part_mk _ _ rfl S1 rfl

/-- A friendship by its two numbers; nothing that was there has turned. -/
def Pair (w : World) (c d : Int) (e : Ending) (w' : World) : Prop := e = .returned (.agg #[.int .u64 c, .int .u64 d]) ∧ Below w.heap.size w w'

theorem pair_mk {w w' : World} {c d : Int} {e : Ending} (h1 : e = .returned (.agg #[.int .u64 c, .int .u64 d])) (h2 : Below w.heap.size w w') : Pair w c d e w' := ⟨h1, h2⟩

theorem newf_zero (d : Int) (w : World) : Calls Try.prog 46 #[.int .u64 0, .int .u64 d] w fun e w' => Pair w 0 1 e w' := by
  go_enter Try.func46, Try.ntmps46
  go_wp2
  exact bodyPost_ret (v := .agg #[.int .u64 0, .int .u64 1]) (by simp [results, Try.results46, go_sem]) rfl (pair_mk rfl ((Below.refl _ _).alloc (Nat.le_refl _) _))

theorem newf_more (c d : Int) (w : World) (hc : 0 < c) : Calls Try.prog 46 #[.int .u64 c, .int .u64 d] w fun e w' => Pair w c d e w' := by
  have hc0 : (c == 0) = false := beq_eq_false_iff_ne.2 (by omega)
  go_enter Try.func46, Try.ntmps46
  go_wp2
  exact bodyPost_ret (v := .agg #[.int .u64 c, .int .u64 d]) (by simp [results, Try.results46, go_sem]) rfl (pair_mk rfl ((Below.refl _ _).alloc (Nat.le_refl _) _))

end Go.Proofs.Qxb6600130a
