/-
  THE PLAIN MATHEMATICS OF THE SEAT b6600130a: lists of integers, no Go in sight.
-/
namespace Go.Proofs.Qxb6600130a.Pl

/-! ### Ascending lists, and how many elements two of them share -/

/-- Each element is less than the next. -/
def Adj (l : List Int) : Prop := ∀ k, k + 1 < l.length → l.getD k 0 < l.getD (k + 1) 0

/-- Strictly ascending. -/
def Asc : List Int → Prop
  | [] => True
  | x :: xs => (∀ y ∈ xs, x < y) ∧ Asc xs

theorem asc_of_adj : ∀ l : List Int, Adj l → Asc l
  | [], _ => trivial
  | [x], _ => ⟨fun y hy => by simp at hy, trivial⟩
  | x :: y :: r, h => by
    have h1 : x < y := by have := h 0 (by simp); simpa using this
    have h2 : Asc (y :: r) := asc_of_adj (y :: r) (fun k hk => by
      have := h (k + 1) (by simpa using hk)
      simpa using this)
    refine ⟨fun z hz => ?_, h2⟩
    rcases List.mem_cons.1 hz with rfl | hz
    · exact h1
    · have := h2.1 z hz
      omega

theorem asc_drop : ∀ (k : Nat) (l : List Int), Asc l → Asc (l.drop k)
  | 0, _, h => by simpa using h
  | _ + 1, [], _ => by simp [Asc]
  | k + 1, _ :: xs, h => by simpa using asc_drop k xs h.2

/-- Is x among them? -/
def has (l : List Int) (x : Int) : Bool := decide (x ∈ l)

theorem has_iff (l : List Int) (x : Int) : has l x = true ↔ x ∈ l := by simp [has]
theorem has_not (l : List Int) (x : Int) : has l x = false ↔ ¬ x ∈ l := by simp [has]

/-- How many elements of the first list lie in the second. -/
def cnt (xs ys : List Int) : Nat := (xs.filter (has ys)).length

theorem cnt_nil_left (ys : List Int) : cnt [] ys = 0 := rfl
theorem cnt_nil_right (xs : List Int) : cnt xs [] = 0 := by
  unfold cnt
  rw [List.length_eq_zero_iff, List.filter_eq_nil_iff]
  intro x _
  simp [has]

theorem cnt_le_left (xs ys : List Int) : cnt xs ys ≤ xs.length := List.length_filter_le _ _

theorem cnt_cons (x : Int) (xs ys : List Int) : cnt (x :: xs) ys = cnt xs ys + if has ys x = true then 1 else 0 := by
  unfold cnt
  rw [List.filter_cons]
  by_cases h : has ys x = true
  · rw [if_pos h, if_pos h]; simp
  · rw [if_neg h, if_neg h]; simp

theorem cnt_congr (xs ys zs : List Int) (h : ∀ x ∈ xs, has ys x = has zs x) : cnt xs ys = cnt xs zs := by
  unfold cnt
  rw [List.filter_congr h]

theorem cnt_lt (x y : Int) (xs ys : List Int) (hy : Asc (y :: ys)) (h : x < y) : cnt (x :: xs) (y :: ys) = cnt xs (y :: ys) := by
  rw [cnt_cons, if_neg]
  · rfl
  · intro e
    rw [has_iff] at e
    rcases List.mem_cons.1 e with e | e
    · omega
    · have := hy.1 x e
      omega

theorem cnt_gt (x y : Int) (xs ys : List Int) (hx : Asc (x :: xs)) (h : y < x) : cnt (x :: xs) (y :: ys) = cnt (x :: xs) ys := by
  refine cnt_congr _ _ _ (fun z hz => ?_)
  have hzy : z ≠ y := by
    rcases List.mem_cons.1 hz with e | e
    · omega
    · have := hx.1 z e
      omega
  unfold has
  simp [hzy]

theorem cnt_same (x : Int) (xs ys : List Int) (hx : Asc (x :: xs)) : cnt (x :: xs) (x :: ys) = cnt xs ys + 1 := by
  rw [cnt_cons, if_pos (by simp [has])]
  congr 1
  refine cnt_congr _ _ _ (fun z hz => ?_)
  have hzy : z ≠ x := by
    have := hx.1 z hz
    omega
  unfold has
  simp [hzy]

theorem cnt_comm_aux : ∀ (n : Nat) (xs ys : List Int), xs.length + ys.length ≤ n → Asc xs → Asc ys → cnt xs ys = cnt ys xs
  | _, [], ys, _, _, _ => by rw [cnt_nil_left, cnt_nil_right]
  | _, x :: xs, [], _, _, _ => by rw [cnt_nil_left, cnt_nil_right]
  | 0, x :: xs, y :: ys, h, _, _ => by simp at h
  | n + 1, x :: xs, y :: ys, h, hx, hy => by
    simp only [List.length_cons] at h
    rcases Int.lt_trichotomy x y with hl | he | hg
    · rw [cnt_lt x y xs ys hy hl, cnt_gt y x ys xs hy hl]
      exact cnt_comm_aux n xs (y :: ys) (by simp; omega) hx.2 hy
    · subst he
      rw [cnt_same x xs ys hx, cnt_same x ys xs hy]
      rw [cnt_comm_aux n xs ys (by omega) hx.2 hy.2]
    · rw [cnt_gt x y xs ys hx hg, cnt_lt y x ys xs hx hg]
      exact cnt_comm_aux n (x :: xs) ys (by simp; omega) hx hy.2

theorem cnt_comm (xs ys : List Int) (hx : Asc xs) (hy : Asc ys) : cnt xs ys = cnt ys xs := cnt_comm_aux _ xs ys (Nat.le_refl _) hx hy

theorem cnt_le_right (xs ys : List Int) (hx : Asc xs) (hy : Asc ys) : cnt xs ys ≤ ys.length := by
  rw [cnt_comm xs ys hx hy]; exact cnt_le_left _ _

theorem cnt_full_aux : ∀ (xs ys : List Int), Asc xs → Asc ys → cnt xs ys = xs.length → cnt xs ys = ys.length → xs = ys
  | [], ys, _, _, _, h2 => by
    rw [cnt_nil_left] at h2
    exact (List.length_eq_zero_iff.1 h2.symm).symm
  | x :: xs, [], _, _, h1, _ => by
    rw [cnt_nil_right] at h1
    simp at h1
  | x :: xs, y :: ys, hx, hy, h1, h2 => by
    simp only [List.length_cons] at h1 h2
    rcases Int.lt_trichotomy x y with hl | he | hg
    · rw [cnt_lt x y xs ys hy hl] at h1
      have := cnt_le_left xs (y :: ys)
      omega
    · subst he
      rw [cnt_same x xs ys hx] at h1 h2
      rw [cnt_full_aux xs ys hx.2 hy.2 (by omega) (by omega)]
    · rw [cnt_gt x y xs ys hx hg] at h2
      have := cnt_le_right (x :: xs) ys hx hy.2
      omega

theorem has_self (l : List Int) : cnt l l = l.length := by
  unfold cnt
  rw [List.filter_eq_self.2]
  intro x hx
  rw [has_iff]; exact hx

/-- c·c is the product of the two lengths just where the lists are one. -/
theorem cnt_sq (xs ys : List Int) (hx : Asc xs) (hy : Asc ys) (h : cnt xs ys * cnt xs ys = xs.length * ys.length) (h0 : 0 < cnt xs ys) : xs = ys := by
  have h1 := cnt_le_left xs ys
  have h2 := cnt_le_right xs ys hx hy
  have e1 : cnt xs ys = xs.length := by
    rcases Nat.lt_or_ge (cnt xs ys) xs.length with hl | hg
    · exfalso
      have a1 : cnt xs ys * cnt xs ys < xs.length * cnt xs ys := Nat.mul_lt_mul_of_pos_right hl h0
      have a2 : xs.length * cnt xs ys ≤ xs.length * ys.length := Nat.mul_le_mul_left _ h2
      omega
    · omega
  have e2 : cnt xs ys = ys.length := by
    rcases Nat.lt_or_ge (cnt xs ys) ys.length with hl | hg
    · exfalso
      have a1 : cnt xs ys * cnt xs ys < cnt xs ys * ys.length := Nat.mul_lt_mul_of_pos_left hl h0
      have a2 : cnt xs ys * ys.length ≤ xs.length * ys.length := Nat.mul_le_mul_right _ h1
      omega
    · omega
  exact cnt_full_aux xs ys hx hy e1 e2

theorem cnt_take (xs ys : List Int) (k : Nat) (h : k < xs.length) : cnt (xs.take (k + 1)) ys = cnt (xs.take k) ys + if has ys (xs.getD k 0) = true then 1 else 0 := by
  rw [List.take_succ_eq_append_getElem h]
  unfold cnt
  rw [List.filter_append, List.length_append]
  congr 1
  have e : xs.getD k 0 = xs[k] := by simp [List.getD, h]
  rw [e, List.filter_cons]
  by_cases hh : has ys xs[k] = true
  · rw [if_pos hh, if_pos hh]; rfl
  · rw [if_neg hh, if_neg hh]; rfl

/-! ### A binary search -/

theorem asc_le : ∀ (l : List Int), Asc l → ∀ i j, i < j → j < l.length → l.getD i 0 < l.getD j 0
  | [], _, i, j, _, h => by simp at h
  | x :: xs, hx, 0, j + 1, _, h => by
    have hj : j < xs.length := by simpa using h
    have := hx.1 (xs[j]) (List.getElem_mem hj)
    simpa [List.getD, hj] using this
  | x :: xs, hx, i + 1, j + 1, hij, h => by
    have := asc_le xs hx.2 i j (by omega) (by simpa using h)
    simpa using this

/-- What the search has found when its two ends meet. -/
theorem search_end (l : List Int) (hl : Asc l) (x : Int) (k : Nat) (lo : ∀ i, i < k → l.getD i 0 < x) (hi : ∀ i, k ≤ i → i < l.length → x ≤ l.getD i 0) :
    has l x = (decide (k < l.length) && (l.getD k 0 == x)) := by
  by_cases h : x ∈ l
  · rw [(has_iff l x).2 h]
    obtain ⟨i, hi1, hi2⟩ := List.getElem_of_mem h
    have e : l.getD i 0 = x := by simp [List.getD, hi1, hi2]
    have hk : ¬ i < k := fun h2 => by have := lo i h2; omega
    have hki : i = k := by
      rcases Nat.lt_or_ge k i with h3 | h3
      · have a1 := asc_le l hl k i h3 hi1
        have a2 := hi k (Nat.le_refl _) (by omega)
        omega
      · omega
    subst hki
    simp [hi1, hi2]
  · rw [(has_not l x).2 h]
    symm
    rw [Bool.and_eq_false_iff]
    by_cases hk : k < l.length
    · right
      rw [beq_eq_false_iff_ne]
      intro e
      apply h
      rw [← e]
      have : l.getD k 0 = l[k] := by simp [List.getD, hk]
      rw [this]
      exact List.getElem_mem hk
    · left
      simp [hk]

/-! ### The search for a common prefix: one round of Friendship, at lists that are left -/

theorem drop_cons (l : List Int) (k : Nat) (h : k < l.length) : l.drop k = l.getD k 0 :: l.drop (k + 1) := by
  rw [List.drop_eq_getElem_cons h]
  simp [List.getD, h]

/-! ### A chain of numbers that never falls -/

theorem chain_le (l : List Int) (h : ∀ k, k + 1 < l.length → l.getD k 0 ≤ l.getD (k + 1) 0) (i : Nat) : ∀ d, i + d < l.length → l.getD i 0 ≤ l.getD (i + d) 0
  | 0, _ => Int.le_refl _
  | d + 1, hd => by
    have a := chain_le l h i d (by omega)
    have b := h (i + d) (by omega)
    have e : i + (d + 1) = i + d + 1 := by omega
    rw [e]
    omega

theorem chain (l : List Int) (h : ∀ k, k + 1 < l.length → l.getD k 0 ≤ l.getD (k + 1) 0) (i j : Nat) (hij : i ≤ j) (hj : j < l.length) : l.getD i 0 ≤ l.getD j 0 := by
  have := chain_le l h i (j - i) (by omega)
  have e : i + (j - i) = j := by omega
  rw [e] at this
  exact this

/-! ### Take -/

/-- A place, what it held when the shuffle was made, what was sent from it. -/
abbrev Spot := Nat × Int × Int

/-- The first of the spots that still holds what it held. -/
def adv (N : List Int) : List Spot → List Spot
  | [] => []
  | q :: r => if N.getD q.1 0 = q.2.1 then q :: r else adv N r

/-- Is the entry put there? -/
def goes (self x : Int) (N : List Int) (q : Spot) : Bool := decide (x ≠ self ∧ ((x = q.2.1 ∧ x ≠ q.2.2) ∨ ¬ x ∈ N))

/-- What the view's nodes are behind Take. -/
def takeF (self : Int) : List Int → List Int → List Spot → List Int
  | [], N, _ => N
  | x :: xs, N, r =>
    match adv N r with
    | [] => N
    | q :: r' => if goes self x N q = true then takeF self xs (N.set q.1 x) r' else takeF self xs N (q :: r')

theorem takeF_nil (self : Int) (N : List Int) (r : List Spot) : takeF self [] N r = N := rfl
theorem takeF_done (self x : Int) (xs N : List Int) (r : List Spot) (h : adv N r = []) : takeF self (x :: xs) N r = N := by
  simp only [takeF, h]
theorem takeF_put (self x : Int) (xs N : List Int) (r r' : List Spot) (q : Spot) (h : adv N r = q :: r') (hg : goes self x N q = true) : takeF self (x :: xs) N r = takeF self xs (N.set q.1 x) r' := by
  simp only [takeF, h, hg, if_true]
theorem takeF_pass (self x : Int) (xs N : List Int) (r r' : List Spot) (q : Spot) (h : adv N r = q :: r') (hg : goes self x N q = false) : takeF self (x :: xs) N r = takeF self xs N (q :: r') := by
  simp [takeF, h, hg]

theorem adv_skip (N : List Int) (q : Spot) (r : List Spot) (h : ¬ N.getD q.1 0 = q.2.1) : adv N (q :: r) = adv N r := by
  rw [adv, if_neg h]
theorem adv_stay (N : List Int) (q : Spot) (r : List Spot) (h : N.getD q.1 0 = q.2.1) : adv N (q :: r) = q :: r := by
  rw [adv, if_pos h]
theorem adv_adv (N : List Int) : ∀ r, adv N (adv N r) = adv N r
  | [] => rfl
  | q :: r => by
    by_cases h : N.getD q.1 0 = q.2.1
    · rw [adv_stay N q r h, adv_stay N q r h]
    · rw [adv_skip N q r h]; exact adv_adv N r
theorem adv_live (N : List Int) : ∀ (r r' : List Spot) (q : Spot), adv N r = q :: r' → N.getD q.1 0 = q.2.1 ∧ q ∈ r ∧ ∀ p ∈ r', p ∈ r
  | [], r', q, h => by simp [adv] at h
  | p :: r, r', q, h => by
    by_cases hp : N.getD p.1 0 = p.2.1
    · rw [adv_stay N p r hp] at h
      injection h with h1 h2
      subst h1; subst h2
      exact ⟨hp, List.mem_cons_self, fun p hp => List.mem_cons_of_mem _ hp⟩
    · rw [adv_skip N p r hp] at h
      obtain ⟨a, b, c⟩ := adv_live N r r' q h
      exact ⟨a, List.mem_cons_of_mem _ b, fun p hp => List.mem_cons_of_mem _ (c p hp)⟩

theorem takeF_adv (self : Int) (xs N : List Int) (r : List Spot) : takeF self xs N (adv N r) = takeF self xs N r := by
  cases xs with
  | nil => rfl
  | cons x xs => simp only [takeF, adv_adv]

theorem set_same (N : List Int) (p : Nat) (x : Int) (h : N.getD p 0 = x) : N.set p x = N := by
  apply List.ext_getElem
  · simp
  · intro i h1 h2
    rw [List.getElem_set]
    split
    · rename_i e
      subst e
      rw [← h]
      simp [List.getD, h2]
    · rfl

theorem takeF_length (self : Int) : ∀ (xs N : List Int) (r : List Spot), (takeF self xs N r).length = N.length
  | [], _, _ => rfl
  | x :: xs, N, r => by
    cases h : adv N r with
    | nil => rw [takeF_done self x xs N r h]
    | cons q r' =>
      cases hg : goes self x N q with
      | true => rw [takeF_put self x xs N r r' q h hg, takeF_length self xs]; simp
      | false => rw [takeF_pass self x xs N r r' q h hg, takeF_length self xs]

/-- Where every entry is the view's own node or in the view, nothing turns. -/
theorem takeF_same (self : Int) : ∀ (xs N : List Int) (r : List Spot), (∀ x ∈ xs, x = self ∨ x ∈ N) → takeF self xs N r = N
  | [], _, _, _ => rfl
  | x :: xs, N, r, hx => by
    cases h : adv N r with
    | nil => rw [takeF_done self x xs N r h]
    | cons q r' =>
      obtain ⟨hl, _, _⟩ := adv_live N r r' q h
      cases hg : goes self x N q with
      | true =>
        rw [takeF_put self x xs N r r' q h hg]
        have hg' : x ≠ self ∧ ((x = q.2.1 ∧ x ≠ q.2.2) ∨ ¬ x ∈ N) := by simpa only [goes, decide_eq_true_eq] using hg
        have hin : x ∈ N := by
          rcases hx x List.mem_cons_self with e | e
          · exact absurd e hg'.1
          · exact e
        have e : x = q.2.1 := by
          rcases hg'.2 with e | e
          · exact e.1
          · exact absurd hin e
        rw [set_same N q.1 x (by rw [hl, e])]
        exact takeF_same self xs N r' (fun y hy => hx y (List.mem_cons_of_mem _ hy))
      | false =>
        rw [takeF_pass self x xs N r r' q h hg]
        exact takeF_same self xs N _ (fun y hy => hx y (List.mem_cons_of_mem _ hy))

/-- The view's places and its own node: what Take keeps. -/
def Kept (self : Int) (N0 : List Int) (T : List Spot) (R N : List Int) : Prop :=
  N.length = N0.length ∧ N.Nodup ∧ ¬ self ∈ N ∧ ∀ i, i < N.length → N.getD i 0 = N0.getD i 0 ∨ ((∃ q ∈ T, q.1 = i ∧ N0.getD i 0 = q.2.1) ∧ N.getD i 0 ∈ R)

theorem nodup_set (N : List Int) (p : Nat) (x : Int) (hN : N.Nodup) (hx : ¬ x ∈ N) : (N.set p x).Nodup := by
  unfold List.Nodup at hN ⊢
  rw [List.pairwise_iff_getElem] at hN ⊢
  intro i j hi hj hij
  have hi' : i < N.length := by simpa using hi
  have hj' : j < N.length := by simpa using hj
  have old := hN i j hi' hj' hij
  rw [List.getElem_set, List.getElem_set]
  by_cases e1 : p = i
  · by_cases e2 : p = j
    · omega
    · rw [if_pos e1, if_neg e2]
      intro e
      apply hx
      rw [e]
      exact List.getElem_mem hj'
  · by_cases e2 : p = j
    · rw [if_neg e1, if_pos e2]
      intro e
      apply hx
      rw [← e]
      exact List.getElem_mem hi'
    · rw [if_neg e1, if_neg e2]
      exact old

theorem getD_set (N : List Int) (p i : Nat) (x : Int) (h : i < N.length) : (N.set p x).getD i 0 = if p = i then x else N.getD i 0 := by
  have h' : i < (N.set p x).length := by simpa using h
  have e : (N.set p x).getD i 0 = (N.set p x)[i] := by simp [List.getD, h]
  rw [e, List.getElem_set]
  simp [List.getD, h]

theorem kept_step (self x : Int) (N0 : List Int) (T : List Spot) (R N : List Int) (q : Spot) (h : Kept self N0 T R N) (hq : q ∈ T) (hl : N.getD q.1 0 = q.2.1) (hx : x ∈ R) (hg : goes self x N q = true) : Kept self N0 T R (N.set q.1 x) := by
  have hg' : x ≠ self ∧ ((x = q.2.1 ∧ x ≠ q.2.2) ∨ ¬ x ∈ N) := by simpa only [goes, decide_eq_true_eq] using hg
  by_cases hxq : x = q.2.1
  · rw [set_same N q.1 x (by rw [hl, hxq])]; exact h
  · obtain ⟨h1, h2, h3, h4⟩ := h
    have hin : ¬ x ∈ N := by
      rcases hg'.2 with e | e
      · exact absurd e.1 hxq
      · exact e
    refine ⟨by simpa using h1, nodup_set N q.1 x h2 hin, ?_, ?_⟩
    · intro hs
      rcases List.mem_or_eq_of_mem_set hs with e | e
      · exact h3 e
      · exact hg'.1 e.symm
    · intro i hi
      have hi' : i < N.length := by simpa using hi
      rw [getD_set N q.1 i x hi']
      by_cases e : q.1 = i
      · rw [if_pos e]
        right
        refine ⟨?_, hx⟩
        rcases h4 i hi' with a | a
        · exact ⟨q, hq, e, by rw [← a, ← e]; exact hl⟩
        · exact a.1
      · rw [if_neg e]
        exact h4 i hi'

theorem takeF_kept (self : Int) (N0 : List Int) (T : List Spot) (R : List Int) : ∀ (xs N : List Int) (r : List Spot), (∀ x ∈ xs, x ∈ R) → (∀ q ∈ r, q ∈ T) → Kept self N0 T R N → Kept self N0 T R (takeF self xs N r)
  | [], _, _, _, _, h => h
  | x :: xs, N, r, hx, hr, hk => by
    cases h : adv N r with
    | nil => rw [takeF_done self x xs N r h]; exact hk
    | cons q r' =>
      obtain ⟨hl, hq, hr'⟩ := adv_live N r r' q h
      have hxs : ∀ y ∈ xs, y ∈ R := fun y hy => hx y (List.mem_cons_of_mem _ hy)
      cases hg : goes self x N q with
      | true =>
        rw [takeF_put self x xs N r r' q h hg]
        exact takeF_kept self N0 T R xs _ r' hxs (fun p hp => hr p (hr' p hp)) (kept_step self x N0 T R N q hk (hr q hq) hl (hx x List.mem_cons_self) hg)
      | false =>
        rw [takeF_pass self x xs N r r' q h hg]
        refine takeF_kept self N0 T R xs N (q :: r') hxs (fun p hp => ?_) hk
        rcases List.mem_cons.1 hp with e | e
        · subst e; exact hr _ hq
        · exact hr p (hr' p e)

/-- What the law wants of the view: the t-th entry in the t-th place that still holds what it held. -/
def wantF (N0 : List Int) : List Spot → List Int → List Int → List Int
  | [], _, W => W
  | _ :: _, [], W => W
  | q :: r, x :: xs, W => if N0.getD q.1 0 = q.2.1 then wantF N0 r xs (W.set q.1 x) else wantF N0 r (x :: xs) W

theorem wantF_hit (N0 : List Int) (q : Spot) (r : List Spot) (x : Int) (xs W : List Int) (h : N0.getD q.1 0 = q.2.1) : wantF N0 (q :: r) (x :: xs) W = wantF N0 r xs (W.set q.1 x) := by
  rw [wantF, if_pos h]
theorem wantF_miss (N0 : List Int) (q : Spot) (r : List Spot) (x : Int) (xs W : List Int) (h : ¬ N0.getD q.1 0 = q.2.1) : wantF N0 (q :: r) (x :: xs) W = wantF N0 r (x :: xs) W := by
  rw [wantF, if_neg h]
theorem wantF_nil (N0 : List Int) (r : List Spot) (W : List Int) : wantF N0 r [] W = W := by
  cases r <;> rfl
theorem wantF_none (N0 : List Int) (xs W : List Int) : wantF N0 [] xs W = W := rfl

theorem wantF_length (N0 : List Int) : ∀ (r : List Spot) (xs W : List Int), (wantF N0 r xs W).length = W.length
  | [], _, _ => rfl
  | q :: r, [], W => rfl
  | q :: r, x :: xs, W => by
    by_cases h : N0.getD q.1 0 = q.2.1
    · rw [wantF_hit N0 q r x xs W h, wantF_length N0 r]; simp
    · rw [wantF_miss N0 q r x xs W h, wantF_length N0 r]

theorem takeF_want (self : Int) (N0 : List Int) : ∀ (r : List Spot) (xs N : List Int), (r.map (·.1)).Nodup → xs.Nodup → (∀ q ∈ r, q.1 < N.length) → (∀ q ∈ r, N.getD q.1 0 = N0.getD q.1 0) → (∀ x ∈ xs, x ≠ self ∧ ¬ x ∈ N) →
    takeF self xs N r = wantF N0 r xs N
  | [], xs, N, _, _, _, _, _ => by
    rw [wantF_none]
    cases xs with
    | nil => rfl
    | cons x xs => exact takeF_done self x xs N [] rfl
  | q :: r, [], N, _, _, _, _, _ => by rw [wantF_nil, takeF_nil]
  | q :: r, x :: xs, N, hd, hx, hlt, hN, hnew => by
    have hd' : ¬ q.1 ∈ r.map (·.1) ∧ (r.map (·.1)).Nodup := by simpa only [List.map_cons, List.nodup_cons] using hd
    have hx' : ¬ x ∈ xs ∧ xs.Nodup := by simpa only [List.nodup_cons] using hx
    have hq := hN q List.mem_cons_self
    by_cases h : N0.getD q.1 0 = q.2.1
    · rw [wantF_hit N0 q r x xs N h]
      have hg : goes self x N q = true := by
        have := hnew x List.mem_cons_self
        simp only [goes, decide_eq_true_eq]
        exact ⟨this.1, Or.inr this.2⟩
      rw [takeF_put self x xs N (q :: r) r q (adv_stay N q r (by rw [hq, h])) hg]
      refine takeF_want self N0 r xs _ hd'.2 hx'.2 (fun p hp => by simpa using hlt p (List.mem_cons_of_mem _ hp)) (fun p hp => ?_) (fun y hy => ?_)
      · have hne : ¬ q.1 = p.1 := fun e => hd'.1 (by rw [e]; exact List.mem_map_of_mem hp)
        rw [getD_set N q.1 p.1 x (hlt p (List.mem_cons_of_mem _ hp)), if_neg hne]
        exact hN p (List.mem_cons_of_mem _ hp)
      · have := hnew y (List.mem_cons_of_mem _ hy)
        refine ⟨this.1, fun e => ?_⟩
        rcases List.mem_or_eq_of_mem_set e with e | e
        · exact this.2 e
        · subst e; exact hx'.1 hy
    · rw [wantF_miss N0 q r x xs N h]
      have e : takeF self (x :: xs) N (q :: r) = takeF self (x :: xs) N r := by
        rw [← takeF_adv self (x :: xs) N (q :: r), adv_skip N q r (by rw [hq]; exact h), takeF_adv]
      rw [e]
      exact takeF_want self N0 r (x :: xs) N hd'.2 hx (fun p hp => hlt p (List.mem_cons_of_mem _ hp)) (fun p hp => hN p (List.mem_cons_of_mem _ hp)) hnew

end Go.Proofs.Qxb6600130a.Pl
