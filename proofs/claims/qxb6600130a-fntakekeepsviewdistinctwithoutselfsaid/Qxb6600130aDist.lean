/-
  distinctInts, viewValid, wasLive.
-/
import Derived.Test.Qxb6600130aSmall
namespace Go.Proofs.Qxb6600130a
open Go.RowKit
set_option linter.unusedVariables false

theorem drewN_add (w : World) (a b : Nat) : (w.drewN a).drewN b = w.drewN (a + b) := by
  simp [World.drewN, Nat.add_assoc]

/-- Are they distinct? -/
def distB (zs : List Int) : Bool := decide zs.Nodup
theorem distB_yes {zs : List Int} (h : zs.Nodup) : distB zs = true := by simp [distB, h]
theorem distB_no {zs : List Int} (h : ¬ zs.Nodup) : distB zs = false := by simp [distB, h]
theorem distB_iff {zs : List Int} (h : distB zs = true) : zs.Nodup := by simpa [distB] using h

theorem nodup_of {zs : List Int} (h : ∀ i j, i < j → j < zs.length → zs.getD i 0 ≠ zs.getD j 0) : zs.Nodup := by
  unfold List.Nodup
  rw [List.pairwise_iff_getElem]
  intro i j hi hj hij
  have := h i j hij hj
  simpa [List.getD, hi, hj] using this
theorem not_nodup_of {zs : List Int} (i j : Nat) (h1 : i < j) (h2 : j < zs.length) (h : zs.getD i 0 = zs.getD j 0) : ¬ zs.Nodup := by
  intro hn
  unfold List.Nodup at hn
  rw [List.pairwise_iff_getElem] at hn
  have hi : i < zs.length := by omega
  have := hn i j hi h2 h1
  apply this
  simpa [List.getD, hi, h2] using h

set_option maxHeartbeats 1000000 in
theorem distinct_any (a : Option Addr) (n c : Nat) (zs : List Int) (w : World) (hs : Sl w a n zs) (hn : n ≤ 65536) :
    Calls Try.prog 32 #[.slice a n c] w fun e w' => Draws w (distB zs) e w' := by
  have L : Hid (zs.length = n) := hs.len
  go_enter Try.func32, Try.ntmps32
  go_wp2
  go_loopw [3] (fun vi wr => ∃ k : Nat, k ≤ n ∧ vi = .int .i64 k ∧ Hid (∀ i j, i < k → i < j → j < n → zs.getD i 0 ≠ zs.getD j 0) ∧ ∃ q, wr = w.drewN q) (fun vi _ => n - (intOf vi).toNat)
  case atStart => exact ⟨0, Nat.zero_le _, rfl, fun i j hi => by omega, 0, rfl⟩
  case round =>
    obtain ⟨k, hk, rfl, HK, q, rfl⟩ := hrel
    by_cases hlt : k < n
    · rcases hs.cells with hh | ⟨b, off, rfl, hc⟩
      · omega
      have HC : Hid (∀ i, i < n → w.cell? ⟨b, off + i, none⟩ = some (.int .i64 (zs.getD i 0))) := hc
      clear hc
      obtain ⟨x, Hx⟩ : ∃ z, Hid (zs.getD k 0 = z) := ⟨_, rfl⟩
      have k1 : w.cell? ⟨b, off + k, none⟩ = some (.int .i64 x) := by have := HC.out k hlt; rw [Hx.out] at this; exact this
      go_wp2
      go_loopw [4] (fun vj wr => ∃ t : Nat, k + 1 ≤ t ∧ t ≤ n ∧ vj = .int .i64 t ∧ Hid (∀ j, k < j → j < t → x ≠ zs.getD j 0) ∧ ∃ q, wr = w.drewN q) (fun vj _ => n - (intOf vj).toNat)
      case atStart => exact ⟨k + 1, Nat.le_refl _, by omega, by go_num, fun j h1 h2 => by omega, _, rfl⟩
      case round =>
        obtain ⟨t, ht1, ht2, rfl, HT, q2, rfl⟩ := hrel
        by_cases htn : t < n
        · obtain ⟨y, Hy⟩ : ∃ z, Hid (zs.getD t 0 = z) := ⟨_, rfl⟩
          have k2 : w.cell? ⟨b, off + t, none⟩ = some (.int .i64 y) := by have := HC.out t htn; rw [Hy.out] at this; exact this
          by_cases hxy : (x == y) = true
          · have HE : Hid (distB zs = false) := distB_no (not_nodup_of k t (by omega) (by rw [L.out]; exact htn) (by rw [Hx.out, Hy.out]; simpa using hxy))
            go_wp2
            go_region
            all_goals go_wp2
            go_ret
            exact draws_mk _ (ret_bool HE.out.symm) rfl
          · have hxy' : (x == y) = false := by simpa using hxy
            have HN : Hid (∀ j, k < j → j < t + 1 → x ≠ zs.getD j 0) := fun j h1 h2 => by
              by_cases e : j = t
              · rw [e, Hy.out]; simpa using hxy
              · exact HT.out j h1 (by omega)
            clear hxy
            go_wp2
            go_region
            all_goals go_wp2
            go_roundw
            case rel => exact ⟨t + 1, by omega, by omega, by go_num, HN, _, rfl⟩
            case measure => simp [intOf]; omega
        · have HN : Hid (∀ i j, i < k + 1 → i < j → j < n → zs.getD i 0 ≠ zs.getD j 0) := fun i j h1 h2 h3 => by
            by_cases e : i = k
            · rw [e, Hx.out]; exact HT.out j (by omega) (by omega)
            · exact HK.out i j (by omega) h2 h3
          go_wp2
          go_roundw
          case rel => exact ⟨k + 1, by omega, by go_num, HN, _, rfl⟩
          case measure => simp [intOf]; omega
    · have HE : Hid (distB zs = true) := distB_yes (nodup_of (fun i j h1 h2 => HK.out i j (by rw [L.out] at h2; omega) h1 (by rw [L.out] at h2; exact h2)))
      go_wp2
      go_ret
      exact draws_mk _ (ret_bool HE.out.symm) rfl

/-- Distinct, and without the view's own node? -/
def viewB (self : Int) (zs : List Int) : Bool := decide (¬ self ∈ zs ∧ zs.Nodup)
theorem viewB_yes {self : Int} {zs : List Int} (h1 : ¬ self ∈ zs) (h2 : zs.Nodup) : viewB self zs = true := by simp [viewB, h1, h2]
theorem viewB_in {self : Int} {zs : List Int} (h1 : self ∈ zs) : viewB self zs = false := by simp [viewB, h1]
theorem viewB_eq {self : Int} {zs : List Int} (h1 : ¬ self ∈ zs) : viewB self zs = distB zs := by simp [viewB, distB, h1]
theorem viewB_iff {self : Int} {zs : List Int} (h : viewB self zs = true) : ¬ self ∈ zs ∧ zs.Nodup := by simpa only [viewB, decide_eq_true_eq] using h

set_option maxHeartbeats 1000000 in
theorem valid_any (self : Int) (a : Option Addr) (n c : Nat) (zs : List Int) (w : World) (hs1 : -2147483648 ≤ self) (hs2 : self ≤ 2147483647) (hs : Sl w a n zs) (hn : n ≤ 65536) :
    Calls Try.prog 23 #[.int .i32 self, .slice a n c] w fun e w' => Draws w (viewB self zs) e w' := by
  have L : Hid (zs.length = n) := hs.len
  go_enter Try.func23, Try.ntmps23
  go_wp2
  go_loop [5] (fun vi => ∃ k : Nat, k ≤ n ∧ vi = .int .i64 k ∧ Hid (∀ i, i < k → zs.getD i 0 ≠ self)) (fun vi => n - (intOf vi).toNat)
  case atStart => exact ⟨0, Nat.zero_le _, rfl, fun i hi => by omega⟩
  case round =>
    obtain ⟨k, hk, rfl, HK⟩ := hrel
    by_cases hlt : k < n
    · rcases hs.cells with hh | ⟨b, off, rfl, hc⟩
      · omega
      obtain ⟨x, Hx⟩ : ∃ z, Hid (zs.getD k 0 = z) := ⟨_, rfl⟩
      have k1 : w.cell? ⟨b, off + k, none⟩ = some (.int .i64 x) := by have := hc k hlt; rw [Hx.out] at this; exact this
      clear hc
      by_cases hxs : x = self
      · have j1 : (x == self) = true := by simp [hxs]
        have HE : Hid (viewB self zs = false) := viewB_in (by
          have hk' : k < zs.length := by rw [L.out]; exact hlt
          have : zs[k] = self := by have := Hx.out; rw [hxs] at this; simpa [List.getD, hk'] using this
          rw [← this]; exact List.getElem_mem hk')
        clear hxs
        go_wp2
        go_ret
        exact draws_mk 0 (ret_bool HE.out.symm) rfl
      · have j1 : (x == self) = false := beq_eq_false_iff_ne.2 hxs
        have HN : Hid (∀ i, i < k + 1 → zs.getD i 0 ≠ self) := fun i hi => by
          by_cases e : i = k
          · rw [e, Hx.out]; exact hxs
          · exact HK.out i (by omega)
        clear hxs
        go_wp2
        go_round
        case rel => exact ⟨k + 1, by omega, by go_num, HN⟩
        case measure => simp [intOf]; omega
    · have HE : Hid (distB zs = viewB self zs) := (viewB_eq (fun hm => by
        obtain ⟨i, hi1, hi2⟩ := List.getElem_of_mem hm
        exact HK.out i (by rw [L.out] at hi1; omega) (by simpa [List.getD, hi1] using hi2))).symm
      go_wp2_with fail
      refine (distinct_any a n c zs _ hs hn).mono ?_
      rintro e w1 ⟨rfl, m1, rfl⟩
      rw [HE.out]
      go_wp2_with fail
      go_ret
      exact draws_mk _ rfl rfl

/-- Is place i one that was sent from, and that held then what it held before? -/
def liveB (i : Nat) (B P H : List Int) (m : Nat) : Bool := (List.range m).any fun j => P.getD j 0 == (i : Int) && B.getD i 0 == H.getD j 0
theorem liveB_yes {i : Nat} {B P H : List Int} {m : Nat} (j : Nat) (hj : j < m) (h1 : P.getD j 0 = i) (h2 : B.getD i 0 = H.getD j 0) : liveB i B P H m = true := by
  unfold liveB
  rw [List.any_eq_true]
  exact ⟨j, List.mem_range.2 hj, by rw [h1, h2]; simp⟩
theorem liveB_no {i : Nat} {B P H : List Int} {m : Nat} (h : ∀ j, j < m → ¬ (P.getD j 0 = i ∧ B.getD i 0 = H.getD j 0)) : liveB i B P H m = false := by
  unfold liveB
  rw [List.any_eq_false]
  intro j hj
  have := h j (List.mem_range.1 hj)
  intro e
  rw [Bool.and_eq_true, beq_iff_eq, beq_iff_eq] at e
  exact this e

set_option maxHeartbeats 1000000 in
theorem live_any (i : Nat) (aB aP aH : Option Addr) (n m cB cP cH : Nat) (B P H : List Int) (w : World) (sB : Sl w aB n B) (sP : Sl w aP m P) (sH : Sl w aH m H) (hi : i < n) (bn : n ≤ 4096) (bm : m ≤ 4096) :
    Calls Try.prog 28 #[.int .i64 i, .slice aB n cB, .slice aP m cP, .slice aH m cH] w fun e w' => Draws w (liveB i B P H m) e w' := by
  rcases sB.cells with hh | ⟨bB, oB, rfl, cBc⟩
  · omega
  obtain ⟨y, Hy⟩ : ∃ z, Hid (B.getD i 0 = z) := ⟨_, rfl⟩
  have k0 : w.cell? ⟨bB, oB + i, none⟩ = some (.int .i64 y) := by have := cBc i hi; rw [Hy.out] at this; exact this
  clear cBc
  go_enter Try.func28, Try.ntmps28
  go_wp2
  go_loopw [9] (fun vj wr => ∃ k : Nat, k ≤ m ∧ vj = .int .i64 k ∧ Hid (∀ j, j < k → ¬ (P.getD j 0 = i ∧ B.getD i 0 = H.getD j 0)) ∧ ∃ q, wr = w.drewN q) (fun vj _ => m - (intOf vj).toNat)
  case atStart => exact ⟨0, Nat.zero_le _, rfl, fun j hj => by omega, 0, rfl⟩
  case round =>
    obtain ⟨k, hk, rfl, HK, q, rfl⟩ := hrel
    by_cases hlt : k < m
    · rcases sP.cells with hh | ⟨bP, oP, rfl, cPc⟩
      · omega
      rcases sH.cells with hh | ⟨bH, oH, rfl, cHc⟩
      · omega
      obtain ⟨p, Hp⟩ : ∃ z, Hid (P.getD k 0 = z) := ⟨_, rfl⟩
      obtain ⟨h, Hh⟩ : ∃ z, Hid (H.getD k 0 = z) := ⟨_, rfl⟩
      have k1 : w.cell? ⟨bP, oP + k, none⟩ = some (.int .i64 p) := by have := cPc k hlt; rw [Hp.out] at this; exact this
      have k2 : w.cell? ⟨bH, oH + k, none⟩ = some (.int .i64 h) := by have := cHc k hlt; rw [Hh.out] at this; exact this
      clear cPc cHc
      have i1 : (k : Int) < (m : Int) := by omega
      have i2 : (i : Int) < (n : Int) := by omega
      by_cases hpi : p = (i : Int)
      · have j1 : (p == (i : Int)) = true := by rw [beq_iff_eq]; exact hpi
        by_cases hyh : y = h
        · have j2 : (y == h) = true := by simp [hyh]
          have HE : Hid (liveB i B P H m = true) := liveB_yes k hlt (by rw [Hp.out, hpi]) (by rw [Hy.out, Hh.out, hyh])
          clear hpi hyh
          go_wp2
          go_quiet (fail)
          go_wp2
          go_ret
          exact draws_mk _ (ret_bool HE.out.symm) (drewN_add _ _ _)
        · have j2 : (y == h) = false := beq_eq_false_iff_ne.2 hyh
          have HN : Hid (∀ j, j < k + 1 → ¬ (P.getD j 0 = i ∧ B.getD i 0 = H.getD j 0)) := fun j hj => by
            by_cases e : j = k
            · rw [e, Hy.out, Hh.out]; exact fun e2 => hyh e2.2
            · exact HK.out j (by omega)
          clear hpi hyh
          go_wp2
          go_quiet (fail)
          go_wp2
          go_roundw
          case rel => exact ⟨k + 1, by omega, by go_num, HN, _, rfl⟩
          case measure => simp [intOf]; omega
      · have j1 : (p == (i : Int)) = false := beq_eq_false_iff_ne.2 hpi
        have HN : Hid (∀ j, j < k + 1 → ¬ (P.getD j 0 = i ∧ B.getD i 0 = H.getD j 0)) := fun j hj => by
          by_cases e : j = k
          · rw [e, Hp.out]; exact fun e2 => hpi e2.1
          · exact HK.out j (by omega)
        clear hpi
        go_wp2
        go_quiet (fail)
        go_wp2
        go_roundw
        case rel => exact ⟨k + 1, by omega, by go_num, HN, _, rfl⟩
        case measure => simp [intOf]; omega
    · have HE : Hid (liveB i B P H m = false) := liveB_no (fun j hj => HK.out j (by omega))
      go_wp2
      go_ret
      exact draws_mk _ (ret_bool HE.out.symm) rfl

end Go.Proofs.Qxb6600130a
