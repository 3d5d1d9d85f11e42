/-
  FOR THE WALK OF (*View).Take: a world in which one block alone has turned; slices away from that block; the spots; slices.Index, slices.Contains.
-/
import Derived.Test.Qxb6600130aSmall
namespace Go.Proofs.Qxb6600130a
open Go.RowKit
set_option linter.unusedVariables false

/-- Of what was there block g alone may have turned. -/
structure Only (g : Nat) (w w' : World) : Prop where
  os : w'.os = w.os
  tape : w'.tape = w.tape
  output : w'.output = w.output
  size : w.heap.size ≤ w'.heap.size
  block : ∀ k, k < w.heap.size → k ≠ g → w'.heap[k]? = w.heap[k]?

theorem Only.refl (g : Nat) (w : World) : Only g w w := ⟨rfl, rfl, rfl, Nat.le_refl _, fun _ _ _ => rfl⟩
theorem Only.trans {g : Nat} {a b c : World} (h : Only g a b) (k : Only g b c) : Only g a c :=
  ⟨k.os.trans h.os, k.tape.trans h.tape, k.output.trans h.output, Nat.le_trans h.size k.size, fun i h1 h2 => (k.block i (Nat.lt_of_lt_of_le h1 h.size) h2).trans (h.block i h1 h2)⟩
theorem Only.of_below {g : Nat} {w w' : World} (h : Below w.heap.size w w') : Only g w w' := ⟨h.os, h.tape, h.output, h.size, fun k hk _ => h.block k hk⟩
theorem Only.setCell {g : Nat} {a w : World} (h : Only g a w) (o : Nat) (u : Value) : Only g a (w.setCell ⟨g, o, none⟩ u) :=
  h.trans ⟨rfl, rfl, rfl, by simp [World.setCell], fun k _ hk => Below.heap_setCell _ _ _ _ hk⟩
theorem Only.drewN {g : Nat} {a w : World} (h : Only g a w) (m : Nat) : Only g a (w.drewN m) := ⟨h.os, h.tape, h.output, h.size, h.block⟩
theorem Only.drew {g : Nat} {a w : World} (h : Only g a w) : Only g a w.drew := ⟨h.os, h.tape, h.output, h.size, h.block⟩
theorem Only.cell {g : Nat} {w w' : World} (h : Only g w w') {p : Addr} {v : Value} (hp : p.block ≠ g) (hc : w.cell? p = some v) : w'.cell? p = some v :=
  (World.cell?_of_block (w := w) (h.block p.block (World.block_lt_of_cell? _ _ hc) hp)).trans hc
theorem Only.below {g B : Nat} {w w' : World} (h : Only g w w') (h1 : B ≤ g) (h2 : B ≤ w.heap.size) : Below B w w' :=
  ⟨h.os, h.tape, h.output, h.size, fun k hk => h.block k (by omega) (by omega)⟩

theorem Row.drewN {w : World} {g : Nat} {zs : List Int} (h : Row w g zs) (m : Nat) : Row (w.drewN m) g zs := h.keep rfl
theorem Row.drew {w : World} {g : Nat} {zs : List Int} (h : Row w g zs) : Row w.drew g zs := h.keep rfl
theorem Row.sl' {w : World} {g n : Nat} {zs : List Int} (h : Row w g zs) (hn : zs.length = n) : Sl w (some ⟨g, 0, none⟩) n zs := by
  subst hn; exact h.sl

/-- A slice that reads as zs and lies away from block g. -/
structure Off (w : World) (g : Nat) (a : Option Addr) (n : Nat) (zs : List Int) : Prop where
  len : zs.length = n
  cells : n = 0 ∨ ∃ b off, b ≠ g ∧ a = some ⟨b, off, none⟩ ∧ ∀ i, i < n → w.cell? ⟨b, off + i, none⟩ = some (.int .i64 (zs.getD i 0))

theorem Off.sl {w : World} {g n : Nat} {a : Option Addr} {zs : List Int} (h : Off w g a n zs) : Sl w a n zs := by
  refine ⟨h.len, ?_⟩
  rcases h.cells with h0 | ⟨b, off, _, ha, hc⟩
  · exact .inl h0
  · exact .inr ⟨b, off, ha, hc⟩

theorem Off.only {w w' : World} {g n : Nat} {a : Option Addr} {zs : List Int} (h : Off w g a n zs) (ho : Only g w w') : Off w' g a n zs := by
  refine ⟨h.len, ?_⟩
  rcases h.cells with h0 | ⟨b, off, hb, ha, hc⟩
  · exact .inl h0
  · exact .inr ⟨b, off, hb, ha, fun i hi => ho.cell (by exact hb) (hc i hi)⟩

theorem Own.off {w : World} {a : Option Addr} {zs : List Int} {base g n : Nat} (h : Own w a zs base) (hg : g < base) (hn : zs.length = n) : Off w g a n zs := by
  subst hn
  refine ⟨rfl, ?_⟩
  rcases h with ⟨rfl, rfl⟩ | ⟨b, rfl, hb, hr⟩
  · exact .inl rfl
  · exact .inr ⟨b, 0, by omega, rfl, fun i hi => by rw [Nat.zero_add]; exact hr.cell i hi⟩

/-- The spots of a shuffle: place, what it held, what was sent. -/
def spots (P H E : List Int) (m : Nat) : List Pl.Spot := (List.range m).map fun k => ((P.getD k 0).toNat, H.getD k 0, E.getD k 0)

theorem spots_length (P H E : List Int) (m : Nat) : (spots P H E m).length = m := by simp [spots]
theorem spots_drop (P H E : List Int) (m k : Nat) (hk : k < m) : (spots P H E m).drop k = ((P.getD k 0).toNat, H.getD k 0, E.getD k 0) :: (spots P H E m).drop (k + 1) := by
  rw [List.drop_eq_getElem_cons (by rw [spots_length]; exact hk)]
  simp [spots]
theorem spots_end (P H E : List Int) (m k : Nat) (hk : ¬ k < m) : (spots P H E m).drop k = [] := by
  rw [List.drop_eq_nil_iff, spots_length]; omega
theorem spots_mem (P H E : List Int) (m : Nat) (q : Pl.Spot) (h : q ∈ spots P H E m) : ∃ k, k < m ∧ q = ((P.getD k 0).toNat, H.getD k 0, E.getD k 0) := by
  unfold spots at h
  rw [List.mem_map] at h
  obtain ⟨k, hk, e⟩ := h
  exact ⟨k, List.mem_range.1 hk, e.symm⟩

/-! ### slices.Index, slices.Contains -/

/-- An index: not negative just where x is among them; the world is as it was. -/
def Finds (w : World) (zs : List Int) (x : Int) (e : Ending) (w' : World) : Prop := ∃ z : Int, e = .returned (.int .i64 z) ∧ decide (0 ≤ z) = Pl.has zs x ∧ w = w'
theorem finds_mk {w w' : World} {zs : List Int} {x : Int} {e : Ending} (z : Int) (h1 : e = .returned (.int .i64 z)) (h2 : decide (0 ≤ z) = Pl.has zs x) (h3 : w = w') : Finds w zs x e w' := ⟨z, h1, h2, h3⟩

theorem index_empty (a : Option Addr) (c : Nat) (x : Int) (w : World) : Calls Try.prog 54 #[.slice a 0 c, .int .i64 x] w fun e w' => Finds w [] x e w' := by
  go_enter Try.func54, Try.ntmps54
  go_wp2
  refine wp_loop_rounds 1 ?_
  rw [rounds_succ]
  go_wp2
  go_ret
  exact finds_mk (-1) rfl rfl rfl

set_option maxHeartbeats 1000000 in
theorem index_some (b off n c : Nat) (zs : List Int) (x : Int) (w : World) (hl : Hid (zs.length = n)) (hc : Hid (∀ i, i < n → w.cell? ⟨b, off + i, none⟩ = some (.int .i64 (zs.getD i 0)))) (hn : n ≤ 65536) :
    Calls Try.prog 54 #[.slice (some ⟨b, off, none⟩) n c, .int .i64 x] w fun e w' => Finds w zs x e w' := by
  go_enter Try.func54, Try.ntmps54
  go_wp2
  go_loop [5, 8] (fun _ i => ∃ k : Nat, k ≤ n ∧ i = .int .i64 k ∧ Hid (∀ j, j < k → zs.getD j 0 ≠ x)) (fun _ i => n - (intOf i).toNat)
  case atStart => exact ⟨0, Nat.zero_le _, rfl, fun i hi => by omega⟩
  case round =>
    obtain ⟨k, hk, rfl, HK⟩ := hrel
    by_cases hlt : k < n
    · obtain ⟨z, Hz⟩ : ∃ z, Hid (zs.getD k 0 = z) := ⟨_, rfl⟩
      have k1 : w.cell? ⟨b, off + k, none⟩ = some (.int .i64 z) := by have := hc.out k hlt; rw [Hz.out] at this; exact this
      by_cases hzx : (x == z) = true
      · have hE : Hid (decide (0 ≤ (k : Int)) = Pl.has zs x) := by
          have e : x = z := by simpa using hzx
          have hk' : k < zs.length := by rw [hl.out]; exact hlt
          have h1 : zs[k] = x := by have := Hz.out; rw [← e] at this; simpa [List.getD, hk'] using this
          have h2 : Pl.has zs x = true := (Pl.has_iff zs x).2 (by rw [← h1]; exact List.getElem_mem hk')
          rw [h2]
          exact decide_eq_true (by omega)
        go_wp2
        go_ret
        exact finds_mk k rfl hE.out rfl
      · have hzx' : (x == z) = false := by simpa using hzx
        have hne : x ≠ z := by simpa using hzx
        have HN : Hid (zs.getD k 0 ≠ x) := by rw [Hz.out]; exact fun e => hne e.symm
        clear hzx hne
        go_wp2
        go_round
        case rel =>
          refine ⟨k + 1, by omega, by go_num, fun j hj => ?_⟩
          by_cases e : j = k
          · rw [e]; exact HN.out
          · exact HK.out j (by omega)
        case measure => simp [intOf]; omega
    · have hE : Hid (Pl.has zs x = false) := by
        rw [Pl.has_not zs x]
        intro hm
        obtain ⟨i, hi1, hi2⟩ := List.getElem_of_mem hm
        exact HK.out i (by rw [hl.out] at hi1; omega) (by simpa [List.getD, hi1] using hi2)
      go_wp2
      go_ret
      exact finds_mk (-1) rfl (by rw [hE.out]; rfl) rfl

theorem index_any (a : Option Addr) (n c : Nat) (zs : List Int) (x : Int) (w : World) (hs : Sl w a n zs) (hn : n ≤ 65536) :
    Calls Try.prog 54 #[.slice a n c, .int .i64 x] w fun e w' => Finds w zs x e w' := by
  rcases hs.cells with h0 | ⟨b, off, rfl, hc⟩
  · subst h0
    have e : zs = [] := List.length_eq_zero_iff.1 hs.len
    subst e
    exact index_empty a c x w
  · exact index_some b off n c zs x w hs.len hc hn

theorem slcontains_any (a : Option Addr) (n c : Nat) (zs : List Int) (x : Int) (w : World) (hs : Sl w a n zs) (hn : n ≤ 65536) :
    Calls Try.prog 47 #[.slice a n c, .int .i64 x] w fun e w' => Tells w (Pl.has zs x) e w' := by
  go_enter Try.func47, Try.ntmps47
  go_wp2_with fail
  refine (index_any a n c zs x _ hs hn).mono ?_
  rintro e w1 ⟨z, rfl, hz, rfl⟩
  have HZ : Hid (decide (0 ≤ z) = Pl.has zs x) := hz
  clear hz
  go_wp2_with fail
  go_ret
  exact tells_mk (ret_bool HZ.out) rfl

/-! ### Does the entry go there? -/

theorem goes_self (self x : Int) (M : List Int) (q : Pl.Spot) (h : x = self) : Pl.goes self x M q = false := by
  simp [Pl.goes, h]
theorem goes_held (self x : Int) (M : List Int) (p : Nat) (h e : Int) (h1 : Pl.has M x = true) (h2 : ¬ (x = h ∧ x ≠ e)) : Pl.goes self x M (p, h, e) = false := by
  rw [Pl.has_iff] at h1
  simp only [Pl.goes, decide_eq_false_iff_not]
  rintro ⟨_, h3 | h3⟩
  · exact h2 h3
  · exact h3 h1
theorem goes_back (self x : Int) (M : List Int) (p : Nat) (h e : Int) (h0 : x ≠ self) (h1 : x = h) (h2 : x ≠ e) : Pl.goes self x M (p, h, e) = true := by
  simp only [Pl.goes, decide_eq_true_eq]
  exact ⟨h0, .inl ⟨h1, h2⟩⟩
theorem goes_new (self x : Int) (M : List Int) (p : Nat) (h e : Int) (h0 : x ≠ self) (h1 : Pl.has M x = false) : Pl.goes self x M (p, h, e) = true := by
  rw [Pl.has_not] at h1
  simp only [Pl.goes, decide_eq_true_eq]
  exact ⟨h0, .inr h1⟩

/-- Take is through: block g holds these nodes, all else is as it was. -/
def Took (w : World) (g : Nat) (M : List Int) (e : Ending) (w' : World) : Prop := e = .returned (.tuple #[]) ∧ Row w' g M ∧ Only g w w'
theorem took_mk {w w' : World} {g : Nat} {M : List Int} {e : Ending} (h1 : e = .returned (.tuple #[])) (h2 : Row w' g M) (h3 : Only g w w') : Took w g M e w' := ⟨h1, h2, h3⟩

end Go.Proofs.Qxb6600130a
