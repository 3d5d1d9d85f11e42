/-
  graphFits: what it has held where it answers yes.
-/
import Derived.Test.Qxb6600130aBase
namespace Go.Proofs.Qxb6600130a
open Go.RowKit

structure Fits (F N : List Int) (u v : Int) : Prop where
  ne : 1 ≤ F.length
  pos : 0 ≤ F.getD 0 0
  mono : ∀ k, k + 1 < F.length → F.getD k 0 ≤ F.getD (k + 1) 0
  last : F.getD (F.length - 1) 0 ≤ N.length
  asc : ∀ i, i + 1 < F.length → ∀ j : Nat, F.getD i 0 ≤ j → (j : Int) + 1 < F.getD (i + 1) 0 → N.getD j 0 < N.getD (j + 1) 0
  u : 0 ≤ u ∧ u + 1 < F.length
  v : 0 ≤ v ∧ v + 1 < F.length

/-- It answers a bool, where that is true P holds, and nothing that was there has turned. -/
def Answers (w : World) (P : Prop) (e : Ending) (w' : World) : Prop := ∃ b, e = .returned (.bool b) ∧ (b = true → P) ∧ Below w.heap.size w w'

theorem answers_mk {w : World} {P : Prop} {e : Ending} {w' : World} {b : Bool} (h1 : e = .returned (.bool b)) (h2 : b = true → P) (h3 : Below w.heap.size w w') : Answers w P e w' := ⟨b, h1, h2, h3⟩

set_option maxHeartbeats 1000000 in
theorem graph_any (a0 a1 : Option Addr) (n0 c0 n1 c1 : Nat) (F N : List Int) (u v : Int) (w : World) (h0 : Sl w a0 n0 F) (h1 : Sl w a1 n1 N) (hn0 : n0 ≤ 65536) (hn1 : n1 ≤ 65536) :
    Calls Try.prog 12 #[.slice a0 n0 c0, .slice a1 n1 c1, .int .i64 u, .int .i64 v] w fun e w' => Answers w (Fits F N u v) e w' := by
  by_cases hz : n0 = 0
  · subst hz
    go_enter Try.func12, Try.ntmps12
    go_wp2
    go_ret
    exact answers_mk (b := false) rfl (fun h => by simp at h) (Below.refl _ _)
  · have HF : Hid (F.length = n0) := h0.len
    have HN : Hid (N.length = n1) := h1.len
    rcases h0.cells with hh | ⟨b0, off0, rfl, hc0⟩
    · omega
    have HC0 : Hid (∀ i, i < n0 → w.cell? ⟨b0, off0 + i, none⟩ = some (.int .i64 (F.getD i 0))) := hc0
    clear hc0
    obtain ⟨f0, Hf0⟩ : ∃ z, Hid (F.getD 0 0 = z) := ⟨_, rfl⟩
    have k0 : w.cell? ⟨b0, off0, none⟩ = some (.int .i64 f0) := by have := HC0.out 0 (by omega); rw [Hf0.out] at this; exact this
    have hp : 1 ≤ n0 := by omega
    clear hz
    by_cases hneg : f0 < 0
    · go_enter Try.func12, Try.ntmps12
      go_wp2
      go_ret
      exact answers_mk (b := false) rfl (fun h => by simp at h) (Below.refl _ _)
    have hpos : 0 ≤ f0 := by omega
    clear hneg
    go_enter Try.func12, Try.ntmps12
    go_wp2
    go_loopw [9] (fun i wr => ∃ k : Nat, k + 1 ≤ n0 ∧ i = .int .i64 k ∧ (∀ j, j < k → F.getD j 0 ≤ F.getD (j + 1) 0) ∧ ∃ m, wr = w.drewN m) (fun i _ => n0 - (intOf i).toNat)
    case atStart => exact ⟨0, by omega, rfl, fun j hj => by omega, 0, rfl⟩
    case round =>
      obtain ⟨k, hk, rfl, hmono, m, rfl⟩ := hrel
      have HM : Hid (∀ j, j < k → F.getD j 0 ≤ F.getD (j + 1) 0) := hmono
      clear hmono
      by_cases hlt : k + 1 < n0
      · obtain ⟨fk, Hfk⟩ : ∃ z, Hid (F.getD k 0 = z) := ⟨_, rfl⟩
        obtain ⟨gk, Hgk⟩ : ∃ z, Hid (F.getD (k + 1) 0 = z) := ⟨_, rfl⟩
        have k1 : w.cell? ⟨b0, off0 + k, none⟩ = some (.int .i64 fk) := by have := HC0.out k (by omega); rw [Hfk.out] at this; exact this
        have k2 : w.cell? ⟨b0, off0 + (k + 1), none⟩ = some (.int .i64 gk) := by have := HC0.out (k + 1) (by omega); rw [Hgk.out] at this; exact this
        go_wp2
        go_region
        all_goals go_wp2
        · go_ret
          exact answers_mk (b := false) rfl (fun h => by simp at h) (below_drewN _ _)
        · have hle : fk ≤ gk := by omega
          go_roundw
          case rel =>
            refine ⟨k + 1, by omega, by go_num, fun j hj => ?_, _, rfl⟩
            by_cases e : j = k
            · subst e; rw [Hfk.out, Hgk.out]; exact hle
            · exact HM.out j (by omega)
          case measure => simp [intOf]; omega
      · obtain ⟨fl, Hfl⟩ : ∃ z, Hid (F.getD (n0 - 1) 0 = z) := ⟨_, rfl⟩
        have k3 : w.cell? ⟨b0, off0 + (n0 - 1), none⟩ = some (.int .i64 fl) := by have := HC0.out (n0 - 1) (by omega); rw [Hfl.out] at this; exact this
        have HM2 : Hid (∀ j, j + 1 < F.length → F.getD j 0 ≤ F.getD (j + 1) 0) := fun j hj => HM.out j (by rw [HF.out] at hj; omega)
        clear HM
        by_cases hl : (n1 : Int) < fl
        · go_wp2
          go_ret
          exact answers_mk (b := false) rfl (fun h => by simp at h) (below_drewN _ _)
        · have hl2 : fl ≤ (n1 : Int) := by omega
          clear hl
          go_wp2
          go_loopw [10] (fun i wr => ∃ k : Nat, k + 1 ≤ n0 ∧ i = .int .i64 k ∧ (∀ i, i < k → ∀ j : Nat, F.getD i 0 ≤ j → (j : Int) + 1 < F.getD (i + 1) 0 → N.getD j 0 < N.getD (j + 1) 0) ∧ ∃ m, wr = w.drewN m) (fun i _ => n0 - (intOf i).toNat)
          case atStart => exact ⟨0, by omega, rfl, fun j hj => by omega, _, rfl⟩
          case round =>
            clear hlt
            obtain ⟨q, hq, rfl, hasc, m2, rfl⟩ := hrel
            have HA : Hid (∀ i, i < q → ∀ j : Nat, F.getD i 0 ≤ j → (j : Int) + 1 < F.getD (i + 1) 0 → N.getD j 0 < N.getD (j + 1) 0) := hasc
            clear hasc
            by_cases hlt : q + 1 < n0
            · obtain ⟨fq, Hfq⟩ : ∃ z, Hid (F.getD q 0 = z) := ⟨_, rfl⟩
              obtain ⟨gq, Hgq⟩ : ∃ z, Hid (F.getD (q + 1) 0 = z) := ⟨_, rfl⟩
              have k1 : w.cell? ⟨b0, off0 + q, none⟩ = some (.int .i64 fq) := by have := HC0.out q (by omega); rw [Hfq.out] at this; exact this
              have k2 : w.cell? ⟨b0, off0 + (q + 1), none⟩ = some (.int .i64 gq) := by have := HC0.out (q + 1) (by omega); rw [Hgq.out] at this; exact this
              have e1 : 0 ≤ fq := by have := Pl.chain F HM2.out 0 q (by omega) (by rw [HF.out]; omega); rw [Hf0.out, Hfq.out] at this; omega
              have e2 : fq ≤ gq := by have := HM2.out q (by rw [HF.out]; omega); rw [Hfq.out, Hgq.out] at this; omega
              have e3 : gq ≤ (n1 : Int) := by have := Pl.chain F HM2.out (q + 1) (n0 - 1) (by omega) (by rw [HF.out]; omega); rw [Hgq.out, Hfl.out] at this; omega
              go_wp2
              go_loopw [11] (fun j wr => ∃ t : Nat, j = .int .i64 t ∧ fq ≤ t ∧ (t : Int) ≤ 65536 ∧ (∀ j : Nat, fq ≤ j → j < t → (j : Int) + 1 < gq → N.getD j 0 < N.getD (j + 1) 0) ∧ ∃ m, wr = w.drewN m) (fun j _ => gq.toNat - (intOf j).toNat)
              case atStart => exact ⟨fq.toNat, by rw [Int.toNat_of_nonneg e1], by omega, by omega, fun j h1 h2 => by omega, _, rfl⟩
              case round =>
                obtain ⟨t, rfl, ht1, ht2, hin, m3, rfl⟩ := hrel
                have HI : Hid (∀ j : Nat, fq ≤ j → j < t → (j : Int) + 1 < gq → N.getD j 0 < N.getD (j + 1) 0) := hin
                clear hin
                by_cases ht : (t : Int) + 1 < gq
                · rcases h1.cells with hh | ⟨b1, off1, rfl, hc1⟩
                  · omega
                  obtain ⟨x, Hx⟩ : ∃ z, Hid (N.getD t 0 = z) := ⟨_, rfl⟩
                  obtain ⟨y, Hy⟩ : ∃ z, Hid (N.getD (t + 1) 0 = z) := ⟨_, rfl⟩
                  have k4 : w.cell? ⟨b1, off1 + t, none⟩ = some (.int .i64 x) := by have := hc1 t (by omega); rw [Hx.out] at this; exact this
                  have k5 : w.cell? ⟨b1, off1 + (t + 1), none⟩ = some (.int .i64 y) := by have := hc1 (t + 1) (by omega); rw [Hy.out] at this; exact this
                  clear hc1
                  go_wp2
                  go_region
                  all_goals go_wp2
                  · go_ret
                    exact answers_mk (b := false) rfl (fun h => by simp at h) (below_drewN _ _)
                  · have hle : x < y := by omega
                    go_roundw
                    case rel =>
                      refine ⟨t + 1, by go_num, by omega, by omega, fun j hj1 hj2 hj3 => ?_, _, rfl⟩
                      by_cases e : j = t
                      · subst e; rw [Hx.out, Hy.out]; exact hle
                      · exact HI.out j hj1 (by omega) hj3
                    case measure => simp [intOf]; omega
                · go_wp2
                  go_roundw
                  case rel =>
                    refine ⟨q + 1, by omega, by go_num, fun i hi j hj1 hj2 => ?_, _, rfl⟩
                    by_cases e : i = q
                    · subst e
                      rw [Hfq.out] at hj1
                      rw [Hgq.out] at hj2
                      exact HI.out j hj1 (by omega) hj2
                    · exact HA.out i (by omega) j hj1 hj2
                  case measure => simp [intOf]; omega
            · by_cases h1u : 0 ≤ u
              · by_cases h2u : u < (n0 : Int) - 1
                · by_cases h1v : 0 ≤ v
                  · by_cases h2v : v < (n0 : Int) - 1
                    · go_wp2
                      go_ret
                      refine answers_mk (b := true) rfl (fun _ => ⟨by rw [HF.out]; exact hp, by rw [Hf0.out]; exact hpos, HM2.out, by rw [HF.out, Hfl.out, HN.out]; exact hl2, fun i hi => HA.out i (by rw [HF.out] at hi; omega), ⟨h1u, by rw [HF.out]; omega⟩, ⟨h1v, by rw [HF.out]; omega⟩⟩) (below_drewN _ _)
                    · go_wp2
                      go_ret
                      exact answers_mk (b := false) rfl (fun h => by simp at h) (below_drewN _ _)
                  · go_wp2
                    go_ret
                    exact answers_mk (b := false) rfl (fun h => by simp at h) (below_drewN _ _)
                · go_wp2
                  go_ret
                  exact answers_mk (b := false) rfl (fun h => by simp at h) (below_drewN _ _)
              · go_wp2
                go_ret
                exact answers_mk (b := false) rfl (fun h => by simp at h) (below_drewN _ _)

end Go.Proofs.Qxb6600130a
