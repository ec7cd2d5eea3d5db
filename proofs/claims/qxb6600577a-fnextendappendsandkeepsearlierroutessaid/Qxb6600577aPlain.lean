namespace Go.Proofs.Qxb6600577a.Plain
section
variable {α : Type} [DecidableEq α]

/-- What 'appendOnce' computes. -/
def once (e : α) (cap : Nat) (xs : List α) (a : α) : List α := if a = e ∨ cap ≤ xs.length ∨ a ∈ xs then xs else xs ++ [a]

/-- The list after the first k items. -/
def fed (e : α) (cap : Nat) (items : List α) (k : Nat) : List α := (items.take k).foldl (once e cap) []

theorem once_len (e : α) (cap : Nat) (xs : List α) (a : α) : xs.length ≤ (once e cap xs a).length ∧ (once e cap xs a).length ≤ xs.length + 1 := by
  unfold once; split <;> simp

theorem fed_zero (e : α) (cap : Nat) (items : List α) : fed e cap items 0 = [] := by simp [fed]

theorem fed_succ (e : α) (cap : Nat) (items : List α) (k : Nat) (h : k < items.length) : fed e cap items (k + 1) = once e cap (fed e cap items k) items[k] := by
  unfold fed
  rw [List.take_succ_eq_append_getElem h, List.foldl_append]; rfl

theorem fed_len (e : α) (cap : Nat) (items : List α) : ∀ k, k ≤ items.length → (fed e cap items k).length ≤ k
  | 0, _ => by simp [fed]
  | k + 1, h => by
    have := fed_len e cap items k (by omega)
    rw [fed_succ e cap items k (by omega)]
    have := (once_len e cap (fed e cap items k) items[k]).2
    omega

theorem fed_mem (e : α) (cap : Nat) (items : List α) : ∀ k, k ≤ items.length → (fed e cap items k).length < cap → ∀ x, x ∈ fed e cap items k ↔ x ≠ e ∧ x ∈ items.take k
  | 0, _, _ => by simp [fed]
  | k + 1, h, hc => by
    intro x
    have h' : k < items.length := by omega
    rw [fed_succ e cap items k h'] at hc ⊢
    have hc' : (fed e cap items k).length < cap := by
      have := (once_len e cap (fed e cap items k) items[k]).1; omega
    have ih := fed_mem e cap items k (by omega) hc'
    rw [List.take_succ_eq_append_getElem h']
    unfold once
    by_cases h1 : items[k] = e
    · rw [if_pos (Or.inl h1), ih x]
      simp only [List.mem_append, List.mem_singleton]
      constructor
      · rintro ⟨a, b⟩; exact ⟨a, Or.inl b⟩
      · rintro ⟨a, b | b⟩
        · exact ⟨a, b⟩
        · exact absurd (b.trans h1) a
    · by_cases h2 : items[k] ∈ fed e cap items k
      · rw [if_pos (Or.inr (Or.inr h2)), ih x]
        have := (ih _).1 h2
        simp only [List.mem_append, List.mem_singleton]
        constructor
        · rintro ⟨a, b⟩; exact ⟨a, Or.inl b⟩
        · rintro ⟨a, b | b⟩
          · exact ⟨a, b⟩
          · exact ⟨a, b ▸ this.2⟩
      · rw [if_neg (by rintro (a | a | a) <;> first | exact h1 a | omega | exact h2 a)]
        simp only [List.mem_append, List.mem_singleton]
        rw [ih x]
        constructor
        · rintro (⟨a, b⟩ | b)
          · exact ⟨a, Or.inl b⟩
          · exact ⟨b ▸ h1, Or.inr b⟩
        · rintro ⟨a, b | b⟩
          · exact Or.inl ⟨a, b⟩
          · exact Or.inr b

/-- The second loop's round: the item is blank or stood before: nothing; else it is taken. -/
theorem fed_skip_blank (e : α) (cap : Nat) (items : List α) (k : Nat) (h : k < items.length) (hb : items[k] = e) : fed e cap items (k + 1) = fed e cap items k := by
  rw [fed_succ e cap items k h]; unfold once; rw [if_pos (Or.inl hb)]
theorem fed_skip_seen (e : α) (cap : Nat) (items : List α) (k : Nat) (h : k < items.length) (hc : (fed e cap items k).length < cap) (hb : items[k] ≠ e) (hs : items[k] ∈ items.take k) : fed e cap items (k + 1) = fed e cap items k := by
  rw [fed_succ e cap items k h]; unfold once; rw [if_pos (Or.inr (Or.inr ((fed_mem e cap items k (by omega) hc _).2 ⟨hb, hs⟩)))]
theorem fed_take (e : α) (cap : Nat) (items : List α) (k : Nat) (h : k < items.length) (hc : (fed e cap items k).length < cap) (hb : items[k] ≠ e) (hs : items[k] ∉ items.take k) : fed e cap items (k + 1) = fed e cap items k ++ [items[k]] := by
  rw [fed_succ e cap items k h]; unfold once
  rw [if_neg]
  rintro (a | a | a)
  · exact hb a
  · omega
  · exact hs ((fed_mem e cap items k (by omega) hc _).1 a).2

/-- Once full, nothing more is taken. -/
theorem fed_full (e : α) (cap : Nat) (items : List α) (k : Nat) (hc : cap ≤ (fed e cap items k).length) : ∀ m, k ≤ m → m ≤ items.length → fed e cap items m = fed e cap items k
  | 0, h, _ => by obtain rfl : k = 0 := by omega
                  rfl
  | m + 1, h, hm => by
    by_cases hk : k = m + 1
    · rw [hk]
    · have ih := fed_full e cap items k hc m (by omega) (by omega)
      rw [fed_succ e cap items m (by omega), ih]
      unfold once
      rw [if_pos (Or.inr (Or.inl hc))]

/-! ### withoutAddr -/
def without (xs : List α) (a : α) : List α := xs.filter (fun x => decide (x ≠ a))

theorem without_once (e : α) (cap : Nat) (xs : List α) (a : α) : without (once e cap xs a) a = without xs a := by
  unfold once
  split
  · rfl
  · simp [without]

/-- How often a stands in xs. -/
def cnt (xs : List α) (a : α) : Nat := xs.count a
theorem cnt_le (xs : List α) (a : α) : cnt xs a ≤ xs.length := List.count_le_length
theorem cnt_snoc (xs : List α) (x a : α) : cnt (xs ++ [x]) a = cnt xs a + if x = a then 1 else 0 := by
  unfold cnt
  rw [List.count_append, List.count_singleton]
  by_cases h : x = a <;> simp [h]

theorem without_len (xs : List α) (a : α) : (without xs a).length + cnt xs a = xs.length := by
  unfold cnt
  induction xs with
  | nil => rfl
  | cons x xs ih =>
    unfold without at *
    by_cases h : x = a
    · subst h; simp at *; omega
    · simp [h] at *; omega

theorem without_not (xs : List α) (a : α) : a ∉ without xs a := by simp [without]
theorem without_sub (xs : List α) (a : α) : (without xs a).Sublist xs := List.filter_sublist

theorem without_snoc (xs : List α) (x a : α) : without (xs ++ [x]) a = without xs a ++ (if x = a then [] else [x]) := by
  unfold without; rw [List.filter_append]; congr 1; by_cases h : x = a <;> simp [h]

end
section
variable {α : Type}
/-- The greedy match: a step past an element that differs. -/
theorem sub_skip {g : α} {gs : List α} {x : α} {xs : List α} (h : (g :: gs).Sublist (x :: xs)) (hne : x ≠ g) : (g :: gs).Sublist xs := by
  cases h with
  | cons _ h => exact h
  | cons_cons _ h => exact absurd rfl hne
theorem sub_match {g : α} {gs : List α} {x : α} {xs : List α} (h : (g :: gs).Sublist (x :: xs)) : gs.Sublist xs := by
  cases h with
  | cons _ h => exact (List.sublist_cons_self _ _).trans h
  | cons_cons _ h => exact h
end
end Go.Proofs.Qxb6600577a.Plain
