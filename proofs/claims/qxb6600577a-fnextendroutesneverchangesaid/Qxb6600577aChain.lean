namespace Go.Proofs.Qxb6600577a.Plain
/-- The earlier op that op j extends. -/
def par (zs : List Int) (j : Nat) : Option Nat := if 0 ≤ zs.getD j 0 ∧ zs.getD j 0 < j then some (zs.getD j 0).toNat else none
/-- What 'lawB1Parent' answers. -/
def parI (zs : List Int) (j : Nat) : Int := if 0 ≤ zs.getD j 0 ∧ zs.getD j 0 < j then zs.getD j 0 else -1
/-- As a number: -1 is the empty route. -/
def num : Option Nat → Int
  | some t => (t : Int)
  | none => -1
theorem parI_num (zs : List Int) (j : Nat) : parI zs j = num (par zs j) := by
  unfold parI par
  split
  · rename_i h
    simp only [num]; omega
  · rfl
theorem par_lt {zs : List Int} {j p : Nat} (h : par zs j = some p) : p < j := by
  unfold par at h
  split at h
  · simp only [Option.some.injEq] at h; omega
  · simp at h

section
variable {α : Type}
/-- The chain of steps back through the parents, with fuel. -/
def chainF (zs : List Int) (d : α) (ss : List α) : Nat → Nat → List α
  | 0, _ => []
  | f + 1, i => (match par zs i with | some p => chainF zs d ss f p | none => []) ++ [ss.getD i d]
theorem chainF_fuel (zs : List Int) (d : α) (ss : List α) : ∀ f i f', i < f → i < f' → chainF zs d ss f i = chainF zs d ss f' i
  | 0, i, _, h, _ => absurd h (by omega)
  | f + 1, i, 0, _, h => absurd h (by omega)
  | f + 1, i, f' + 1, h, h' => by
    unfold chainF
    cases hp : par zs i with
    | none => rfl
    | some p =>
      have := par_lt hp
      simp only []
      rw [chainF_fuel zs d ss f p f' (by omega) (by omega)]
/-- The route of op i. -/
def chain (zs : List Int) (d : α) (ss : List α) (i : Nat) : List α := chainF zs d ss (i + 1) i
/-- The route that an op extends. -/
def before (zs : List Int) (d : α) (ss : List α) : Option Nat → List α
  | some t => chain zs d ss t
  | none => []
theorem chain_eq (zs : List Int) (d : α) (ss : List α) (i : Nat) : chain zs d ss i = before zs d ss (par zs i) ++ [ss.getD i d] := by
  unfold chain
  rw [chainF]
  cases hp : par zs i with
  | none => rfl
  | some p =>
    have := par_lt hp
    simp only [before, chain]
    rw [chainF_fuel zs d ss i p (p + 1) (by omega) (by omega)]
theorem chain_len (zs : List Int) (d : α) (ss : List α) : ∀ n i, i < n → (chain zs d ss i).length ≤ i + 1 ∧ 0 < (chain zs d ss i).length
  | 0, i, h => absurd h (by omega)
  | n + 1, i, h => by
    rw [chain_eq]
    cases hp : par zs i with
    | none => simp [before]
    | some p =>
      have h1 := par_lt hp
      have := chain_len zs d ss n p (by omega)
      simp only [before, List.length_append, List.length_singleton]
      omega
theorem before_len (zs : List Int) (d : α) (ss : List α) (i : Nat) : (before zs d ss (par zs i)).length ≤ i := by
  cases hp : par zs i with
  | none => simp [before]
  | some p =>
    have h1 := par_lt hp
    have := chain_len zs d ss (p + 1) p (by omega)
    simp only [before]; omega
theorem before_prefix {zs : List Int} {d : α} {ss : List α} {t : Nat} {l : List α} (h : chain zs d ss t <+: l) : before zs d ss (par zs t) <+: l := by
  rw [chain_eq] at h
  exact (List.prefix_append _ _).trans h
theorem last_of_prefix {zs : List Int} {d : α} {ss : List α} {t : Nat} {l : List α} (h : chain zs d ss t <+: l) : l[(before zs d ss (par zs t)).length]? = some (ss.getD t d) := by
  rw [chain_eq] at h
  obtain ⟨r, rfl⟩ := h
  simp
end
end Go.Proofs.Qxb6600577a.Plain
