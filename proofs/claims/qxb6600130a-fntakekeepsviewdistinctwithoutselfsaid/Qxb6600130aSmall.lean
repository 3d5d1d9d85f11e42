/-
  ZZFriendshipParts, containsSorted, eqInts, containsInt.
-/
import Derived.Test.Qxb6600130aBase
import Derived.Deep.QuietTactic
import Derived.BigQuiet
namespace Go.Proofs.Qxb6600130a
open Go.RowKit
set_option linter.unusedVariables false

/-- Two numbers; nothing that was there has turned. -/
def Two (w : World) (c d : Int) (e : Ending) (w' : World) : Prop := e = .returned (.tuple #[.int .u64 c, .int .u64 d]) ∧ Below w.heap.size w w'
theorem two_mk {w w' : World} {c d : Int} {e : Ending} (h1 : e = .returned (.tuple #[.int .u64 c, .int .u64 d])) (h2 : Below w.heap.size w w') : Two w c d e w' := ⟨h1, h2⟩

theorem parts_any (c d : Int) (w : World) : Calls Try.prog 15 #[.agg #[.int .u64 c, .int .u64 d]] w fun e w' => Two w c d e w' := by
  go_enter Try.func15, Try.ntmps15
  go_wp2
  go_region
  all_goals (try go_wp2)
  all_goals go_ret2
  all_goals exact two_mk rfl ((Below.refl _ _).alloc (Nat.le_refl _) _).drew

/-- A bool; the world is as it was. -/
def Tells (w : World) (b : Bool) (e : Ending) (w' : World) : Prop := e = .returned (.bool b) ∧ w = w'
theorem tells_mk {w w' : World} {b : Bool} {e : Ending} (h1 : e = .returned (.bool b)) (h2 : w = w') : Tells w b e w' := ⟨h1, h2⟩
/-- A bool; the world is as it was, but for draws. -/
def Draws (w : World) (b : Bool) (e : Ending) (w' : World) : Prop := e = .returned (.bool b) ∧ ∃ m, w' = w.drewN m
theorem draws_mk {w w' : World} {b : Bool} {e : Ending} (m : Nat) (h1 : e = .returned (.bool b)) (h2 : w' = w.drewN m) : Draws w b e w' := ⟨h1, m, h2⟩

theorem ret_bool {a b : Bool} (h : a = b) : Ending.returned (.bool a) = .returned (.bool b) := by rw [h]

theorem sorted_empty (a : Option Addr) (c : Nat) (x : Int) (w : World) : Calls Try.prog 17 #[.slice a 0 c, .int .i64 x] w fun e w' => Tells w false e w' := by
  go_enter Try.func17, Try.ntmps17
  go_wp2
  refine wp_loop_rounds 1 ?_
  rw [rounds_succ]
  go_wp2
  go_ret
  exact tells_mk rfl rfl

set_option maxHeartbeats 1000000 in
theorem sorted_some (b off n c : Nat) (zs : List Int) (x : Int) (w : World) (hl : Hid (zs.length = n)) (hc : Hid (∀ i, i < n → w.cell? ⟨b, off + i, none⟩ = some (.int .i64 (zs.getD i 0)))) (hn : n ≤ 65536) (ha : Hid (Pl.Asc zs)) :
    Calls Try.prog 17 #[.slice (some ⟨b, off, none⟩) n c, .int .i64 x] w fun e w' => Tells w (Pl.has zs x) e w' := by
  go_enter Try.func17, Try.ntmps17
  go_wp2
  go_loop [5, 6] (fun lo hi => ∃ l h : Nat, l ≤ h ∧ h ≤ n ∧ lo = .int .i64 l ∧ hi = .int .i64 h ∧ Hid (∀ i, i < l → zs.getD i 0 < x) ∧ Hid (∀ i, h ≤ i → i < n → x ≤ zs.getD i 0)) (fun lo hi => (intOf hi).toNat - (intOf lo).toNat)
  case atStart => exact ⟨0, n, Nat.zero_le _, Nat.le_refl _, rfl, rfl, fun i hi => by omega, fun i h1 h2 => by omega⟩
  case round =>
    obtain ⟨l, h, hlh, hh, rfl, rfl, HL, HH⟩ := hrel
    by_cases hlt : l < h
    · obtain ⟨z, Hz⟩ : ∃ z, Hid (zs.getD (l + (h - l) / 2) 0 = z) := ⟨_, rfl⟩
      have k1 : w.cell? ⟨b, off + (l + (h - l) / 2), none⟩ = some (.int .i64 z) := by have := hc.out (l + (h - l) / 2) (by omega); rw [Hz.out] at this; exact this
      by_cases hz : z < x
      · go_wp2
        go_round
        case rel =>
          refine ⟨l + (h - l) / 2 + 1, h, by omega, hh, by go_num, rfl, fun i hi => ?_, HH⟩
          by_cases e : i = l + (h - l) / 2
          · rw [e, Hz.out]; exact hz
          · have := Pl.asc_le zs ha.out i (l + (h - l) / 2) (by omega) (by rw [hl.out]; omega)
            rw [Hz.out] at this
            omega
        case measure => simp [intOf]; omega
      · go_wp2
        go_round
        case rel =>
          refine ⟨l, l + (h - l) / 2, by omega, by omega, rfl, by go_num, HL, fun i h1 h2 => ?_⟩
          by_cases e : i = l + (h - l) / 2
          · rw [e, Hz.out]; omega
          · have := Pl.asc_le zs ha.out (l + (h - l) / 2) i (by omega) (by rw [hl.out]; omega)
            rw [Hz.out] at this
            omega
        case measure => simp [intOf]; omega
    · have hE : Hid (Pl.has zs x = (decide (l < n) && (zs.getD l 0 == x))) := by
        have := Pl.search_end zs ha.out x l HL.out (fun i h1 h2 => HH.out i (by omega) (by rw [hl.out] at h2; exact h2))
        rw [hl.out] at this
        exact this
      by_cases hln : l < n
      · obtain ⟨z, Hz⟩ : ∃ z, Hid (zs.getD l 0 = z) := ⟨_, rfl⟩
        have k1 : w.cell? ⟨b, off + l, none⟩ = some (.int .i64 z) := by have := hc.out l hln; rw [Hz.out] at this; exact this
        have hd : decide (l < n) = true := by simpa using hln
        have hE2 : Hid (Pl.has zs x = (z == x)) := by have := hE.out; rw [Hz.out, hd, Bool.true_and] at this; exact this
        clear hd
        by_cases hzx : (z == x) = true
        · go_wp2
          go_ret
          exact tells_mk (ret_bool (by rw [hE2.out]; exact hzx.symm)) rfl
        · have hzx' : (z == x) = false := by simpa using hzx
          clear hzx
          go_wp2
          go_ret
          exact tells_mk (ret_bool (by rw [hE2.out]; exact hzx'.symm)) rfl
      · have hE2 : Hid (Pl.has zs x = false) := by
          have := hE.out
          rw [show decide (l < n) = false by simpa using hln, Bool.false_and] at this
          exact this
        go_wp2
        go_ret
        exact tells_mk (ret_bool hE2.out.symm) rfl

theorem sorted_any (a : Option Addr) (n c : Nat) (zs : List Int) (x : Int) (w : World) (hs : Sl w a n zs) (hn : n ≤ 65536) (ha : Pl.Asc zs) :
    Calls Try.prog 17 #[.slice a n c, .int .i64 x] w fun e w' => Tells w (Pl.has zs x) e w' := by
  rcases hs.cells with h0 | ⟨b, off, rfl, hc⟩
  · subst h0
    have e : zs = [] := List.length_eq_zero_iff.1 hs.len
    subst e
    exact sorted_empty a c x w
  · exact sorted_some b off n c zs x w hs.len hc hn ha

theorem contains_empty (a : Option Addr) (c : Nat) (x : Int) (w : World) : Calls Try.prog 29 #[.slice a 0 c, .int .i64 x] w fun e w' => Tells w false e w' := by
  go_enter Try.func29, Try.ntmps29
  go_wp2
  refine wp_loop_rounds 1 ?_
  rw [rounds_succ]
  go_wp2
  go_ret
  exact tells_mk rfl rfl

set_option maxHeartbeats 1000000 in
theorem contains_some (b off n c : Nat) (zs : List Int) (x : Int) (w : World) (hl : Hid (zs.length = n)) (hc : Hid (∀ i, i < n → w.cell? ⟨b, off + i, none⟩ = some (.int .i64 (zs.getD i 0)))) (hn : n ≤ 65536) :
    Calls Try.prog 29 #[.slice (some ⟨b, off, none⟩) n c, .int .i64 x] w fun e w' => Tells w (Pl.has zs x) e w' := by
  go_enter Try.func29, Try.ntmps29
  go_wp2
  go_loop [5] (fun i => ∃ k : Nat, k ≤ n ∧ i = .int .i64 k ∧ Hid (∀ j, j < k → zs.getD j 0 ≠ x)) (fun i => n - (intOf i).toNat)
  case atStart => exact ⟨0, Nat.zero_le _, rfl, fun i hi => by omega⟩
  case round =>
    obtain ⟨k, hk, rfl, HK⟩ := hrel
    by_cases hlt : k < n
    · obtain ⟨z, Hz⟩ : ∃ z, Hid (zs.getD k 0 = z) := ⟨_, rfl⟩
      have k1 : w.cell? ⟨b, off + k, none⟩ = some (.int .i64 z) := by have := hc.out k hlt; rw [Hz.out] at this; exact this
      by_cases hzx : (z == x) = true
      · have hE : Hid (Pl.has zs x = true) := by
          rw [Pl.has_iff zs x] at *
          have e : z = x := by simpa using hzx
          have hk' : k < zs.length := by rw [hl.out]; exact hlt
          have : zs[k] = x := by have := Hz.out; rw [e] at this; simpa [List.getD, hk'] using this
          rw [← this]
          exact List.getElem_mem hk'
        go_wp2
        go_ret
        exact tells_mk (ret_bool hE.out.symm) rfl
      · have hzx' : (z == x) = false := by simpa using hzx
        have hne : z ≠ x := by simpa using hzx
        have HN : Hid (zs.getD k 0 ≠ x) := by rw [Hz.out]; exact hne
        clear hzx hne
        go_wp2
        go_round
        case rel =>
          refine ⟨k + 1, by omega, by go_num, fun j hj => ?_⟩
          by_cases e : j = k
          · rw [e]; exact HN.out
          · exact HK.out j (by omega)
        case measure => simp [intOf]; omega
    · have hE : Hid (Pl.has zs x = false) := by
        rw [Pl.has_not zs x]
        intro hm
        obtain ⟨i, hi1, hi2⟩ := List.getElem_of_mem hm
        exact HK.out i (by rw [hl.out] at hi1; omega) (by simpa [List.getD, hi1] using hi2)
      go_wp2
      go_ret
      exact tells_mk (ret_bool hE.out.symm) rfl

theorem contains_any (a : Option Addr) (n c : Nat) (zs : List Int) (x : Int) (w : World) (hs : Sl w a n zs) (hn : n ≤ 65536) :
    Calls Try.prog 29 #[.slice a n c, .int .i64 x] w fun e w' => Tells w (Pl.has zs x) e w' := by
  rcases hs.cells with h0 | ⟨b, off, rfl, hc⟩
  · subst h0
    have e : zs = [] := List.length_eq_zero_iff.1 hs.len
    subst e
    exact contains_empty a c x w
  · exact contains_some b off n c zs x w hs.len hc hn

/-- Are the two lists one? -/
def eqB (xs ys : List Int) : Bool := decide (xs = ys)
theorem eqB_yes {xs ys : List Int} (h : xs = ys) : eqB xs ys = true := by simp [eqB, h]
theorem eqB_no {xs ys : List Int} (h : ¬ xs = ys) : eqB xs ys = false := by simp [eqB, h]

theorem list_eq {xs ys : List Int} (hl : xs.length = ys.length) (h : ∀ i, i < xs.length → xs.getD i 0 = ys.getD i 0) : xs = ys := by
  apply List.ext_getElem hl
  intro i h1 h2
  have := h i h1
  simpa [List.getD, h1, h2] using this

set_option maxHeartbeats 1000000 in
theorem eqInts_any (a b : Option Addr) (n m c d : Nat) (xs ys : List Int) (w : World) (hx : Sl w a n xs) (hy : Sl w b m ys) (hn : n ≤ 65536) (hm : m ≤ 65536) :
    Calls Try.prog 20 #[.slice a n c, .slice b m d] w fun e w' => Draws w (eqB xs ys) e w' := by
  by_cases hnm : n = m
  · subst hnm
    have L1 : Hid (xs.length = n) := hx.len
    have L2 : Hid (ys.length = n) := hy.len
    go_enter Try.func20, Try.ntmps20
    go_wp2
    go_loopw [5] (fun i wr => ∃ k : Nat, k ≤ n ∧ i = .int .i64 k ∧ Hid (∀ j, j < k → xs.getD j 0 = ys.getD j 0) ∧ ∃ q, wr = w.drewN q) (fun i _ => n - (intOf i).toNat)
    case atStart => exact ⟨0, Nat.zero_le _, rfl, fun i hi => by omega, 0, rfl⟩
    case round =>
      obtain ⟨k, hk, rfl, HK, q, rfl⟩ := hrel
      by_cases hlt : k < n
      · rcases hx.cells with hh | ⟨b1, o1, rfl, hc1⟩
        · omega
        rcases hy.cells with hh | ⟨b2, o2, rfl, hc2⟩
        · omega
        obtain ⟨x, Hx⟩ : ∃ z, Hid (xs.getD k 0 = z) := ⟨_, rfl⟩
        obtain ⟨y, Hy⟩ : ∃ z, Hid (ys.getD k 0 = z) := ⟨_, rfl⟩
        have k1 : w.cell? ⟨b1, o1 + k, none⟩ = some (.int .i64 x) := by have := hc1 k hlt; rw [Hx.out] at this; exact this
        have k2 : w.cell? ⟨b2, o2 + k, none⟩ = some (.int .i64 y) := by have := hc2 k hlt; rw [Hy.out] at this; exact this
        clear hc1 hc2
        by_cases hxy : x = y
        · subst hxy
          go_wp2
          go_region
          all_goals go_wp2
          go_roundw
          case rel =>
            refine ⟨k + 1, by omega, by go_num, fun j hj => ?_, _, rfl⟩
            by_cases e : j = k
            · rw [e, Hx.out, Hy.out]
            · exact HK.out j (by omega)
          case measure => simp [intOf]; omega
        · have hne : (x != y) = true := by rw [bne_iff_ne]; exact hxy
          have hE : Hid (eqB xs ys = false) := eqB_no (fun e => hxy (by rw [← Hx.out, ← Hy.out, e]))
          clear hxy
          go_wp2
          go_region
          all_goals go_wp2
          go_ret
          exact draws_mk _ (ret_bool hE.out.symm) rfl
      · have hE : Hid (eqB xs ys = true) := eqB_yes (list_eq (by rw [L1.out, L2.out]) (fun i hi => HK.out i (by rw [L1.out] at hi; omega)))
        go_wp2
        go_ret
        exact draws_mk _ (ret_bool hE.out.symm) rfl
  · have hne : ((n : Int) != (m : Int)) = true := by rw [bne_iff_ne]; omega
    have hE : Hid (eqB xs ys = false) := eqB_no (fun e => hnm (by rw [← hx.len, ← hy.len, e]))
    clear hnm
    go_enter Try.func20, Try.ntmps20
    go_wp2
    go_ret
    exact draws_mk 0 (ret_bool hE.out.symm) rfl

end Go.Proofs.Qxb6600130a
