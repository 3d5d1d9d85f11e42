/-
  (*View).Take at every shuffle that fits; ZZNewView, ZZNewShuffle, ZZViewNodes, shuffleFits.
-/
import Derived.Test.Qxb6600130aTake
import Derived.Test.Qxb6600130aGraph
namespace Go.Proofs.Qxb6600130a
open Go.RowKit
set_option linter.unusedVariables false

/-- No place was sent from: nothing turns. -/
theorem take_none (V r : Nat) (aE aP aH aR : Option Addr) (R : List Int) (w : World) (sR : Sl w aR r R) (br : r ≤ 4096) :
    Calls Try.prog 25 #[.pointer (some ⟨V, 0, none⟩), .agg #[.slice aE 0 0, .slice aP 0 0, .slice aH 0 0], .slice aR r r] w fun e w' => e = .returned (.tuple #[]) ∧ Below w.heap.size w w' := by
  by_cases hr : r = 0
  · subst hr
    go_enter Try.func25, Try.ntmps25
    go_wp2
    refine wp_loop_rounds 1 ?_
    rw [rounds_succ]
    go_wp2
    go_end0
    exact ⟨rfl, (Below.refl _ _).alloc (Nat.le_refl _) _⟩
  · rcases sR.cells with hh | ⟨bR, oR, rfl, cR⟩
    · omega
    obtain ⟨x, Hx⟩ : ∃ z, Hid (R.getD 0 0 = z) := ⟨_, rfl⟩
    have r1 : w.cell? ⟨bR, oR, none⟩ = some (.int .i64 x) := by have := cR 0 (by omega); rw [Hx.out] at this; exact this
    have hp : (0 : Int) < (r : Int) := by omega
    have hlt := World.block_lt_of_cell? _ _ r1
    have hlt' : bR < w.heap.size := hlt
    have hne : ¬ bR = w.heap.size := by omega
    clear cR hlt
    go_enter Try.func25, Try.ntmps25
    go_wp2
    refine wp_loop_rounds 1 ?_
    rw [rounds_succ]
    go_wp2
    refine wp_loop_rounds 1 ?_
    rw [rounds_succ]
    go_wp2
    go_quiet (fail)
    go_wp2
    refine bodyPost_ret (results_none rfl _ _ _) rfl ?_
    exact ⟨rfl, below_next ((Below.refl _ _).alloc (Nat.le_refl _) _) (below_drewN _ _)⟩

/-- The slice at a is nil and empty, or the head of block g, which holds zs. -/
def At (w : World) (g : Nat) (a : Option Addr) (zs : List Int) : Prop := (a = none ∧ zs = []) ∨ (a = some ⟨g, 0, none⟩ ∧ Row w g zs)

theorem At.sl {w : World} {g n : Nat} {a : Option Addr} {zs : List Int} (h : At w g a zs) (hn : zs.length = n) : Sl w a n zs := by
  rcases h with ⟨rfl, rfl⟩ | ⟨rfl, hr⟩
  · exact ⟨hn, .inl hn.symm⟩
  · exact hr.sl' hn

/-- Take is through. -/
def TookAt (w : World) (g : Nat) (a : Option Addr) (M : List Int) (e : Ending) (w' : World) : Prop := e = .returned (.tuple #[]) ∧ At w' g a M ∧ Only g w w'

/-- What a shuffle that fits is. -/
structure ShFits (P : List Int) (n m nE nH : Nat) : Prop where
  e : nE = m
  h : nH = m
  p : ∀ k, k < m → 0 ≤ P.getD k 0 ∧ P.getD k 0 < n

theorem take_any (V g n m r : Nat) (self : Int) (a aE aP aH aR : Option Addr) (N P H E R : List Int) (w : World) (hs1 : -2147483648 ≤ self) (hs2 : self ≤ 2147483647)
    (v0 : w.cell? ⟨V, 0, none⟩ = some (.int .i32 self)) (v2 : w.cell? ⟨V, 2, none⟩ = some (.slice a n n)) (hV : V ≠ g) (hN : At w g a N) (ln : N.length = n)
    (sE : Off w g aE m E) (sP : Off w g aP m P) (sH : Off w g aH m H) (sR : Off w g aR r R) (bn : n ≤ 4096) (bm : m ≤ 4096) (br : r ≤ 4096) (hp : ∀ k, k < m → 0 ≤ P.getD k 0 ∧ P.getD k 0 < n) :
    Calls Try.prog 25 #[.pointer (some ⟨V, 0, none⟩), .agg #[.slice aE m m, .slice aP m m, .slice aH m m], .slice aR r r] w fun e w' => TookAt w g a (Pl.takeF self R N (spots P H E m)) e w' := by
  by_cases hm : 0 < m
  · rcases hN with ⟨_, rfl⟩ | ⟨rfl, hr⟩
    · exfalso
      have := hp 0 hm
      simp at ln
      omega
    · refine (take_some V g n m r self aE aP aH aR N P H E R w hs1 hs2 v0 v2 hV hr ln sE sP sH sR hm bn bm br hp).mono ?_
      rintro e w1 ⟨h1, h2, h3⟩
      exact ⟨h1, .inr ⟨rfl, h2⟩, h3⟩
  · have h0 : m = 0 := by omega
    subst h0
    refine (take_none V r aE aP aH aR R w sR.sl br).mono ?_
    rintro e w1 ⟨h1, h2⟩
    have e1 : Pl.takeF self R N (spots P H E 0) = N := by
      cases R with
      | nil => rfl
      | cons x xs => exact Pl.takeF_done self x xs N _ rfl
    rw [e1]
    refine ⟨h1, ?_, Only.of_below h2⟩
    rcases hN with hn | ⟨rfl, hr⟩
    · exact .inl hn
    · exact .inr ⟨rfl, hr.below h2 hr.lt⟩

/-- A block for the view's nodes, away from all that was cloned behind them. -/
theorem pick_g {w : World} {d : Option Addr} {N : List Int} {b0 s3 : Nat} (h : Own w d N b0) (hlt : ∀ g, d = some ⟨g, 0, none⟩ → g < s3) (hb : b0 ≤ w.heap.size) :
    ∃ g, At w g d N ∧ b0 ≤ g ∧ (∀ a zs base n, s3 ≤ base → zs.length = n → Own w a zs base → Off w g a n zs) ∧ (∀ V v, s3 ≤ V → w.cell? ⟨V, 2, none⟩ = some v → V ≠ g) := by
  rcases h with ⟨rfl, rfl⟩ | ⟨g, rfl, hg, hr⟩
  · refine ⟨w.heap.size, .inl ⟨rfl, rfl⟩, hb, ?_, ?_⟩
    · intro a zs base n h1 h2 ho
      subst h2
      refine ⟨rfl, ?_⟩
      rcases ho with ⟨rfl, rfl⟩ | ⟨b, rfl, hb', hr⟩
      · exact .inl rfl
      · exact .inr ⟨b, 0, by have := hr.lt; omega, rfl, fun i hi => by rw [Nat.zero_add]; exact hr.cell i hi⟩
    · intro V v _ hc e
      have := World.block_lt_of_cell? _ _ hc
      have h2 : V < w.heap.size := this
      omega
  · refine ⟨g, .inr ⟨rfl, hr⟩, hg, ?_, ?_⟩
    · intro a zs base n h1 h2 ho
      exact ho.off (Nat.lt_of_lt_of_le (hlt g rfl) h1) h2
    · intro V v h1 _ e
      have := hlt g rfl
      omega

theorem Own.lt_some {w : World} {d : Option Addr} {N : List Int} {b0 : Nat} (h : Own w d N b0) : ∀ g, d = some ⟨g, 0, none⟩ → g < w.heap.size := by
  intro g hg
  rcases h with ⟨rfl, _⟩ | ⟨g', rfl, _, hr⟩
  · cases hg
  · injection hg with hg
    injection hg with h1
    subst h1
    exact hr.lt

theorem Own.nil {w : World} {d : Option Addr} {N : List Int} {b0 n : Nat} (h : Own w d N b0) (hn : N.length = n) : d = none → n = 0 ∧ n = 0 := by
  intro e
  rcases h with ⟨_, rfl⟩ | ⟨g', rfl, _, _⟩
  · exact ⟨hn.symm, hn.symm⟩
  · cases e

/-- A pointer to a new view. -/
def NewVw (w : World) (self : Int) (v : Value) (e : Ending) (w' : World) : Prop := ∃ V, e = .returned (.pointer (some ⟨V, 0, none⟩)) ∧ w.heap.size ≤ V ∧ w'.cell? ⟨V, 0, none⟩ = some (.int .i32 self) ∧ w'.cell? ⟨V, 2, none⟩ = some v ∧ Below w.heap.size w w'
theorem newvw_mk {w w' : World} {self : Int} {v : Value} {e : Ending} (V : Nat) (h1 : e = .returned (.pointer (some ⟨V, 0, none⟩))) (h2 : w.heap.size ≤ V) (h3 : w'.cell? ⟨V, 0, none⟩ = some (.int .i32 self)) (h4 : w'.cell? ⟨V, 2, none⟩ = some v) (h5 : Below w.heap.size w w') : NewVw w self v e w' := ⟨V, h1, h2, h3, h4, h5⟩

theorem newvw_any (self : Int) (a : Option Addr) (n : Nat) (w : World) : Calls Try.prog 24 #[.int .i32 self, .slice a n n] w fun e w' => NewVw w self (.slice a n n) e w' := by
  go_enter Try.func24, Try.ntmps24
  go_wp2
  go_ret
  exact newvw_mk w.heap.size rfl (Nat.le_refl _) (by simp) (by simp) ((Below.refl _ _).alloc (Nat.le_refl _) _)

/-- A value; nothing that was there has turned. -/
def Gives (w : World) (v : Value) (e : Ending) (w' : World) : Prop := e = .returned v ∧ Below w.heap.size w w'
theorem gives_mk {w w' : World} {v : Value} {e : Ending} (h1 : e = .returned v) (h2 : Below w.heap.size w w') : Gives w v e w' := ⟨h1, h2⟩

theorem newsh_any (aE aP aH : Option Addr) (m : Nat) (w : World) : Calls Try.prog 26 #[.slice aE m m, .slice aP m m, .slice aH m m] w fun e w' => Gives w (.agg #[.slice aE m m, .slice aP m m, .slice aH m m]) e w' := by
  go_enter Try.func26, Try.ntmps26
  go_wp2
  exact bodyPost_ret (v := .agg #[.slice aE m m, .slice aP m m, .slice aH m m]) (by simp [results, Try.results26, go_sem]) rfl (gives_mk rfl ((Below.refl _ _).alloc (Nat.le_refl _) _))

theorem nodes_any (V : Nat) (v : Value) (w : World) (h : w.cell? ⟨V, 2, none⟩ = some v) : Calls Try.prog 27 #[.pointer (some ⟨V, 0, none⟩)] w fun e w' => e = .returned v ∧ w = w' := by
  go_enter Try.func27, Try.ntmps27
  go_wp2
  go_ret
  exact ⟨rfl, rfl⟩

set_option maxHeartbeats 1000000 in
theorem shuffle_any (a1 a2 a3 a4 : Option Addr) (n nE m nH c1 c2 c3 c4 : Nat) (P : List Int) (w : World) (hs : Sl w a3 m P) (b1 : n ≤ 4096) (b2 : nE ≤ 4096) (b3 : m ≤ 4096) (b4 : nH ≤ 4096) :
    Calls Try.prog 22 #[.slice a1 n c1, .slice a2 nE c2, .slice a3 m c3, .slice a4 nH c4] w fun e w' => Answers w (ShFits P n m nE nH) e w' := by
  by_cases hE : nE = m
  · by_cases hH : nH = m
    · subst hE
      subst hH
      go_enter Try.func22, Try.ntmps22
      go_wp2
      go_loop [9] (fun i => ∃ k : Nat, k ≤ nH ∧ i = .int .i64 k ∧ Hid (∀ j, j < k → 0 ≤ P.getD j 0 ∧ P.getD j 0 < n)) (fun i => nH - (intOf i).toNat)
      case atStart => exact ⟨0, Nat.zero_le _, rfl, fun i hi => by omega⟩
      case round =>
        obtain ⟨k, hk, rfl, HK⟩ := hrel
        by_cases hlt : k < nH
        · rcases hs.cells with hh | ⟨b, off, rfl, hc⟩
          · omega
          obtain ⟨z, Hz⟩ : ∃ z, Hid (P.getD k 0 = z) := ⟨_, rfl⟩
          have k1 : w.cell? ⟨b, off + k, none⟩ = some (.int .i64 z) := by have := hc k hlt; rw [Hz.out] at this; exact this
          clear hc
          by_cases h1 : z < 0
          · go_wp2
            go_ret
            exact answers_mk (b := false) rfl (fun h => by simp at h) (Below.refl _ _)
          · by_cases h2 : (n : Int) ≤ z
            · go_wp2
              go_ret
              exact answers_mk (b := false) rfl (fun h => by simp at h) (Below.refl _ _)
            · go_wp2
              go_round
              case rel =>
                refine ⟨k + 1, by omega, by go_num, fun j hj => ?_⟩
                by_cases e : j = k
                · rw [e, Hz.out]; omega
                · exact HK.out j (by omega)
              case measure => simp [intOf]; omega
        · go_wp2
          go_ret
          exact answers_mk (b := true) rfl (fun _ => ⟨rfl, rfl, fun j hj => HK.out j (by omega)⟩) (Below.refl _ _)
    · have h1 : ((nH : Int) != (m : Int)) = true := by rw [bne_iff_ne]; omega
      subst hE
      clear hH
      go_enter Try.func22, Try.ntmps22
      go_wp2
      go_ret
      exact answers_mk (b := false) rfl (fun h => by simp at h) (Below.refl _ _)
  · have h1 : ((nE : Int) != (m : Int)) = true := by rw [bne_iff_ne]; omega
    clear hE
    go_enter Try.func22, Try.ntmps22
    go_wp2
    go_ret
    exact answers_mk (b := false) rfl (fun h => by simp at h) (Below.refl _ _)

end Go.Proofs.Qxb6600130a
