/-
  (*TrustGraph).Friendship: how many neighbours the two nodes share, and the product of their degrees.
-/
import Derived.Test.Qxb6600130aNb
namespace Go.Proofs.Qxb6600130a
open Go.RowKit
set_option linter.unusedVariables false

def lenV : Value → Nat | .slice _ n _ => n | _ => 0

/-- The degrees' product, or 1 where nothing is shared. -/
def deg (xs ys : List Int) : Int := if Pl.cnt xs ys = 0 then 1 else ((xs.length * ys.length : Nat) : Int)

/-- Node i of the graph has the p neighbours xs, in ascending order. -/
structure Node (F N : List Int) (n0 n1 i p : Nat) (xs : List Int) : Prop where
  lt : i + 1 < n0
  ex : ∃ lo hi : Nat, F.getD i 0 = lo ∧ F.getD (i + 1) 0 = hi ∧ lo ≤ hi ∧ hi ≤ n1 ∧ hi - lo = p ∧ (N.drop lo).take (hi - lo) = xs
  asc : Pl.Asc xs
  len : xs.length = p
  le : p ≤ n1

theorem nb_node (G : Nat) (a0 a1 : Option Addr) (n0 n1 : Nat) (F N : List Int) (i p : Nat) (xs : List Int) (w : World) (hg : Gr w G a0 n0 F a1 n1 N) (hn0 : n0 ≤ 65536) (hn1 : n1 ≤ 65536) (hx : Node F N n0 n1 i p xs) :
    Calls Try.prog 45 #[.pointer (some ⟨G, 0, none⟩), .int .i64 i] w fun e w' => Part w p xs e w' := by
  obtain ⟨lo, hi, h1, h2, h3, h4, h5, h6⟩ := hx.ex
  have := nb_any G a0 a1 n0 n1 F N i lo hi w hg hn0 hn1 hx.lt h1 h2 h3 h4
  rw [h6, h5] at this
  exact this

theorem Sl.tail {w : World} {b off n : Nat} {N : List Int} (h : Sl w (some ⟨b, off, none⟩) n N) : Sl w (if n = 1 then some ⟨b, off, none⟩ else some ⟨b, off + 1, none⟩) (n - 1) (N.drop 1) := by
  have hl := h.len
  refine ⟨by simp; omega, ?_⟩
  by_cases h1 : n ≤ 1
  · left; omega
  · right
    rw [if_neg (by omega)]
    rcases h.cells with h0 | ⟨b', off', ha, hc⟩
    · omega
    · injection ha with ha
      injection ha with e1 e2
      subst e1; subst e2
      refine ⟨b, off + 1, rfl, fun i hi => ?_⟩
      have e : off + 1 + i = off + (i + 1) := by omega
      rw [e, hc (i + 1) (by omega)]
      simp [List.getD]

theorem pair_zero (xs ys : List Int) (h : 0 = Pl.cnt xs ys) : Ending.returned (.agg #[.int .u64 0, .int .u64 1]) = .returned (.agg #[.int .u64 (Pl.cnt xs ys : Int), .int .u64 (deg xs ys)]) := by
  unfold deg
  rw [if_pos h.symm, ← h]
  rfl

theorem pair_more (xs ys : List Int) (c p q : Nat) (h : c = Pl.cnt xs ys) (hc : 0 < (c : Int)) (hp : xs.length = p) (hq : ys.length = q) : Ending.returned (.agg #[.int .u64 (c : Int), .int .u64 ((p : Int) * (q : Int))]) = .returned (.agg #[.int .u64 (Pl.cnt xs ys : Int), .int .u64 (deg xs ys)]) := by
  unfold deg
  rw [if_neg (by omega), ← h, hp, hq, Int.natCast_mul]

set_option maxHeartbeats 1000000 in
theorem friend_any (G : Nat) (a0 a1 : Option Addr) (n0 n1 : Nat) (F N : List Int) (i j p q : Nat) (xs ys : List Int) (w : World) (hg : Gr w G a0 n0 F a1 n1 N) (hn0 : n0 ≤ 65536) (hn1 : n1 ≤ 65536)
    (hx : Node F N n0 n1 i p xs) (hy : Node F N n0 n1 j q ys) :
    Calls Try.prog 16 #[.pointer (some ⟨G, 0, none⟩), .int .i64 i, .int .i64 j] w fun e w' => Pair w (Pl.cnt xs ys) (deg xs ys) e w' := by
  have bp := hx.le
  have bq := hy.le
  have bm : (p : Int) * (q : Int) ≤ 4294967296 := by
    have : p * q ≤ 65536 * 65536 := Nat.mul_le_mul (by omega) (by omega)
    rw [← Int.natCast_mul]; omega
  have bm0 : 0 ≤ (p : Int) * (q : Int) := by rw [← Int.natCast_mul]; omega
  go_enter Try.func16, Try.ntmps16
  go_wp2_with fail
  refine (nb_node G a0 a1 n0 n1 F N i p xs _ (hg.keep ((Below.refl _ _).alloc (Nat.le_refl _) _)) hn0 hn1 hx).mono ?_
  rintro e w1 ⟨nu, m1, rfl, S1, rfl⟩
  go_wp2_with fail
  refine (nb_node G a0 a1 n0 n1 F N j q ys _ ((hg.keep ((Below.refl _ _).alloc (Nat.le_refl _) _)).keep (below_drewN _ _)) hn0 hn1 hy).mono ?_
  rintro e w1 ⟨nv, m2, rfl, S2, rfl⟩
  go_wp2_with fail
  obtain ⟨W, hW⟩ : ∃ W, W = w.alloc (.cells #[.int .u64 0, .int .u64 0] 31) := ⟨_, rfl⟩
  have T1 : Sl W nu p xs := by rw [hW]; exact S1
  have T2 : Sl W nv q ys := by rw [hW]; exact ⟨S2.len, S2.cells⟩
  have W1 : Below w.heap.size w W := by rw [hW]; exact (Below.refl _ _).alloc (Nat.le_refl _) _
  have W2 : W.cell? ⟨w.heap.size, 0, none⟩ = some (.int .u64 0) := by rw [hW]; simp
  have W3 : W.cell? ⟨w.heap.size, 1, none⟩ = some (.int .u64 0) := by rw [hW]; simp
  have W4 : W.frozen? ⟨w.heap.size, 0, none⟩ = false := by rw [hW]; simp
  have W5 : W.frozen? ⟨w.heap.size, 1, none⟩ = false := by rw [hW]; simp
  have W6 : w.heap.size < W.heap.size := by rw [hW]; simp
  rw [← hW]
  clear hW S1 S2 hg
  have e1 := hx.len
  have e2 := hy.len
  have E1 : Hid (xs.length = p) := e1
  have E2 : Hid (ys.length = q) := e2
  have hax := hx.asc
  have hay := hy.asc
  clear e1 e2 hx hy
  go_loopw [7, 8, 10] (fun vu vv vc wr => ∃ (A B : List Int) (a b : Option Addr) (p' q' c m : Nat), vu = .slice a p' p' ∧ vv = .slice b q' q' ∧ vc = .int .u64 c ∧ Sl W a p' A ∧ Sl W b q' B ∧ Pl.Asc A ∧ Pl.Asc B ∧ Hid (c + Pl.cnt A B = Pl.cnt xs ys) ∧ wr = W.drewN m) (fun vu vv _ _ => lenV vu + lenV vv)
  case atStart => exact ⟨xs, ys, nu, nv, p, q, 0, m1 + m2, rfl, rfl, rfl, T1, T2, hax, hay, Nat.zero_add _, rfl⟩
  case round =>
    obtain ⟨A, B, a, b, p', q', c, m, rfl, rfl, rfl, SA, SB, hA, hB, HC, rfl⟩ := hrel
    have hcb : c ≤ 65536 := by
      have h1 := HC.out
      have h2 := Pl.cnt_le_left xs ys
      rw [E1.out] at h2
      omega
    by_cases hp : 0 < p'
    · by_cases hq : 0 < q'
      · rcases SA.cells with hh | ⟨b1, o1, rfl, hcA⟩
        · omega
        rcases SB.cells with hh | ⟨b2, o2, rfl, hcB⟩
        · omega
        obtain ⟨x, Hx⟩ : ∃ z, Hid (A.getD 0 0 = z) := ⟨_, rfl⟩
        obtain ⟨y, Hy⟩ : ∃ z, Hid (B.getD 0 0 = z) := ⟨_, rfl⟩
        have k1 : W.cell? ⟨b1, o1, none⟩ = some (.int .i64 x) := by have := hcA 0 hp; rw [Hx.out] at this; exact this
        have k2 : W.cell? ⟨b2, o2, none⟩ = some (.int .i64 y) := by have := hcB 0 hq; rw [Hy.out] at this; exact this
        have LA : Hid (A = x :: A.drop 1) := by have := Pl.drop_cons A 0 (by rw [SA.len]; exact hp); rw [Hx.out] at this; exact this
        have LB : Hid (B = y :: B.drop 1) := by have := Pl.drop_cons B 0 (by rw [SB.len]; exact hq); rw [Hy.out] at this; exact this
        have TA := SA.tail
        have TB := SB.tail
        have DA := Pl.asc_drop 1 A hA
        have DB := Pl.asc_drop 1 B hB
        clear hcA hcB
        rcases Int.lt_trichotomy x y with hxy | hxy | hxy
        · have HN : Hid (c + Pl.cnt (A.drop 1) B = Pl.cnt xs ys) := by
            have h1 := HC.out
            have hB' := hB
            rw [LA.out, LB.out] at h1
            rw [LB.out] at hB'
            rw [Pl.cnt_lt x y _ _ hB' hxy, ← LB.out] at h1
            exact h1
          go_wp2
          go_region
          all_goals go_wp2
          go_roundw
          case rel => exact ⟨A.drop 1, B, _, _, p' - 1, q', c, _, rfl, rfl, rfl, TA, SB, DA, hB, HN, rfl⟩
          case measure => simp [lenV]; omega
        · subst hxy
          have HN : Hid (c + 1 + Pl.cnt (A.drop 1) (B.drop 1) = Pl.cnt xs ys) := by
            have h1 := HC.out
            have hA' := hA
            rw [LA.out] at hA'
            rw [LA.out, LB.out, Pl.cnt_same x _ _ hA'] at h1
            show c + 1 + Pl.cnt (A.drop 1) (B.drop 1) = Pl.cnt xs ys
            omega
          go_wp2
          go_region
          all_goals go_wp2
          go_region
          all_goals go_wp2
          go_region
          all_goals go_wp2
          go_roundw
          case rel => exact ⟨A.drop 1, B.drop 1, _, _, p' - 1, q' - 1, c + 1, m + 1 + 1 + 1, rfl, rfl, by go_num, TA, TB, DA, DB, HN, rfl⟩
          case measure => simp [lenV]; omega
        · have HN : Hid (c + Pl.cnt A (B.drop 1) = Pl.cnt xs ys) := by
            have h1 := HC.out
            have hA' := hA
            rw [LA.out, LB.out] at h1
            rw [LA.out] at hA'
            rw [Pl.cnt_gt x y _ _ hA' hxy, ← LA.out] at h1
            exact h1
          go_wp2
          go_region
          all_goals go_wp2
          go_region
          all_goals go_wp2
          go_roundw
          case rel => exact ⟨A, B.drop 1, _, _, p', q' - 1, c, _, rfl, rfl, rfl, SA, TB, hA, DB, HN, rfl⟩
          case measure => simp [lenV]; omega
      · have HN : Hid (c = Pl.cnt xs ys) := by
          have h1 := HC.out
          have : B = [] := List.length_eq_zero_iff.1 (by rw [SB.len]; omega)
          rw [this, Pl.cnt_nil_right] at h1
          exact h1
        clear HC
        by_cases hc0 : c = 0
        · subst hc0
          go_wp2_with fail
          refine (newf_zero _ _).mono ?_
          rintro e w5 ⟨rfl, hb5⟩
          have v1 : w5.cell? ⟨w.heap.size, 0, none⟩ = some (.int .u64 0) := (hb5.cell (p := ⟨w.heap.size, 0, none⟩) W6).trans W2
          have v2 : w5.cell? ⟨w.heap.size, 1, none⟩ = some (.int .u64 0) := (hb5.cell (p := ⟨w.heap.size, 1, none⟩) W6).trans W3
          have v3 : w5.frozen? ⟨w.heap.size, 0, none⟩ = false := (hb5.frozen (p := ⟨w.heap.size, 0, none⟩) W6).trans W4
          have v4 : w5.frozen? ⟨w.heap.size, 1, none⟩ = false := (hb5.frozen (p := ⟨w.heap.size, 1, none⟩) W6).trans W5
          have hbb : Below w.heap.size w w5 := (W1.trans ((below_drewN W m).mono (Nat.le_of_lt W6))).trans (hb5.mono (Nat.le_of_lt W6))
          go_wp2
          exact bodyPost_ret (v := .agg #[.int .u64 0, .int .u64 1]) (by simp [results, Try.results16, go_sem, v1, v2]) rfl (pair_mk (pair_zero xs ys HN.out) ((hbb.setCell (Nat.le_refl _) _).setCell (Nat.le_refl _) _))
        · have hcp : 0 < (c : Int) := by omega
          go_wp2_with fail
          refine (newf_more _ _ _ hcp).mono ?_
          rintro e w5 ⟨rfl, hb5⟩
          have v1 : w5.cell? ⟨w.heap.size, 0, none⟩ = some (.int .u64 0) := (hb5.cell (p := ⟨w.heap.size, 0, none⟩) W6).trans W2
          have v2 : w5.cell? ⟨w.heap.size, 1, none⟩ = some (.int .u64 0) := (hb5.cell (p := ⟨w.heap.size, 1, none⟩) W6).trans W3
          have v3 : w5.frozen? ⟨w.heap.size, 0, none⟩ = false := (hb5.frozen (p := ⟨w.heap.size, 0, none⟩) W6).trans W4
          have v4 : w5.frozen? ⟨w.heap.size, 1, none⟩ = false := (hb5.frozen (p := ⟨w.heap.size, 1, none⟩) W6).trans W5
          have hbb : Below w.heap.size w w5 := (W1.trans ((below_drewN W m).mono (Nat.le_of_lt W6))).trans (hb5.mono (Nat.le_of_lt W6))
          go_wp2
          exact bodyPost_ret (v := .agg #[.int .u64 c, .int .u64 (p * q)]) (by simp [results, Try.results16, go_sem, v1, v2]) rfl (pair_mk (pair_more xs ys c p q HN.out hcp E1.out E2.out) ((hbb.setCell (Nat.le_refl _) _).setCell (Nat.le_refl _) _))
    · have HN : Hid (c = Pl.cnt xs ys) := by
        have h1 := HC.out
        have : A = [] := List.length_eq_zero_iff.1 (by rw [SA.len]; omega)
        rw [this, Pl.cnt_nil_left] at h1
        exact h1
      clear HC
      by_cases hc0 : c = 0
      · subst hc0
        go_wp2_with fail
        refine (newf_zero _ _).mono ?_
        rintro e w5 ⟨rfl, hb5⟩
        have v1 : w5.cell? ⟨w.heap.size, 0, none⟩ = some (.int .u64 0) := (hb5.cell (p := ⟨w.heap.size, 0, none⟩) W6).trans W2
        have v2 : w5.cell? ⟨w.heap.size, 1, none⟩ = some (.int .u64 0) := (hb5.cell (p := ⟨w.heap.size, 1, none⟩) W6).trans W3
        have v3 : w5.frozen? ⟨w.heap.size, 0, none⟩ = false := (hb5.frozen (p := ⟨w.heap.size, 0, none⟩) W6).trans W4
        have v4 : w5.frozen? ⟨w.heap.size, 1, none⟩ = false := (hb5.frozen (p := ⟨w.heap.size, 1, none⟩) W6).trans W5
        have hbb : Below w.heap.size w w5 := (W1.trans ((below_drewN W m).mono (Nat.le_of_lt W6))).trans (hb5.mono (Nat.le_of_lt W6))
        go_wp2
        exact bodyPost_ret (v := .agg #[.int .u64 0, .int .u64 1]) (by simp [results, Try.results16, go_sem, v1, v2]) rfl (pair_mk (pair_zero xs ys HN.out) ((hbb.setCell (Nat.le_refl _) _).setCell (Nat.le_refl _) _))
      · have hcp : 0 < (c : Int) := by omega
        go_wp2_with fail
        refine (newf_more _ _ _ hcp).mono ?_
        rintro e w5 ⟨rfl, hb5⟩
        have v1 : w5.cell? ⟨w.heap.size, 0, none⟩ = some (.int .u64 0) := (hb5.cell (p := ⟨w.heap.size, 0, none⟩) W6).trans W2
        have v2 : w5.cell? ⟨w.heap.size, 1, none⟩ = some (.int .u64 0) := (hb5.cell (p := ⟨w.heap.size, 1, none⟩) W6).trans W3
        have v3 : w5.frozen? ⟨w.heap.size, 0, none⟩ = false := (hb5.frozen (p := ⟨w.heap.size, 0, none⟩) W6).trans W4
        have v4 : w5.frozen? ⟨w.heap.size, 1, none⟩ = false := (hb5.frozen (p := ⟨w.heap.size, 1, none⟩) W6).trans W5
        have hbb : Below w.heap.size w w5 := (W1.trans ((below_drewN W m).mono (Nat.le_of_lt W6))).trans (hb5.mono (Nat.le_of_lt W6))
        go_wp2
        exact bodyPost_ret (v := .agg #[.int .u64 c, .int .u64 (p * q)]) (by simp [results, Try.results16, go_sem, v1, v2]) rfl (pair_mk (pair_more xs ys c p q HN.out hcp E1.out E2.out) ((hbb.setCell (Nat.le_refl _) _).setCell (Nat.le_refl _) _))

end Go.Proofs.Qxb6600130a
