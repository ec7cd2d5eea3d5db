import Derived.Lib.Join
namespace Go.Proofs.Qxb6600863a.Plain
open Go

/-- The texts of a list of strings. -/
def dat (xs : List ByteArray) : List (List UInt8) := xs.map (·.data.toList)
/-- The names of a list, commas between. -/
def jn (xs : List ByteArray) : List UInt8 := Lib.join (dat xs) [44]
/-- The i-th alternative. -/
def alt (hs os : List ByteArray) (i : Nat) : List UInt8 := jn (hs ++ os.take i)
/-- What showHeaders shows. -/
def showL (hs os : List ByteArray) : List UInt8 :=
  if os.length = 0 then alt hs os 0 else Lib.join ((List.range os.length).map (alt hs os)) [44, 32] ++ [32, 111, 114, 32] ++ alt hs os os.length

theorem join_cons_cons (x y : List UInt8) (r : List (List UInt8)) (sep : List UInt8) : Lib.join (x :: y :: r) sep = x ++ sep ++ Lib.join (y :: r) sep := by
  rw [Lib.join_cons, Lib.join_cons]
  simp [Lib.joinTail]

theorem join_snoc (xs : List (List UInt8)) (x sep : List UInt8) : Lib.join (xs ++ [x]) sep = (if xs = [] then [] else Lib.join xs sep ++ sep) ++ x := by
  induction xs with
  | nil => simp [Lib.join_one]
  | cons y r ih =>
    cases r with
    | nil => simp [join_cons_cons, Lib.join_one]
    | cons z r =>
      have h1 : (z :: r) ≠ [] := by simp
      rw [List.cons_append, List.cons_append, join_cons_cons, ← List.cons_append, ih, if_neg h1, if_neg (by simp), join_cons_cons]
      simp

theorem jn_snoc (xs : List ByteArray) (x : ByteArray) : jn (xs ++ [x]) = (if xs = [] then [] else jn xs ++ [44]) ++ x.data.toList := by
  unfold jn dat
  rw [List.map_append, List.map_singleton, join_snoc]
  cases xs <;> simp

/-- The total of the texts, a separator each. -/
def tot (L : List (List UInt8)) (k : Nat) : Nat := match L with
  | [] => 0
  | x :: r => x.length + k + tot r k
theorem join_le : ∀ (L : List (List UInt8)) (sep : List UInt8), (Lib.join L sep).length ≤ tot L sep.length
  | [], sep => by simp [Lib.join_nil]
  | [x], sep => by simp only [Lib.join_one, tot]; omega
  | x :: y :: r, sep => by
    have := join_le (y :: r) sep
    rw [join_cons_cons]
    simp only [List.length_append, tot] at *
    omega
theorem tot_le (L : List (List UInt8)) (k B : Nat) (h : ∀ x ∈ L, x.length ≤ B) : tot L k ≤ L.length * (B + k) := by
  induction L with
  | nil => simp [tot]
  | cons x r ih =>
    have h1 := h x (by simp)
    have h2 := ih (fun y hy => h y (by simp [hy]))
    simp only [tot, List.length_cons, Nat.add_mul, Nat.one_mul]
    omega

/-! ### Peeling the first optional name -/
theorem alt_zero (hs os : List ByteArray) : alt hs os 0 = jn hs := by simp [alt]
theorem alt_succ (hs : List ByteArray) (o : ByteArray) (os : List ByteArray) (i : Nat) : alt hs (o :: os) (i + 1) = alt (hs ++ [o]) os i := by simp [alt]
theorem showL_nil (hs : List ByteArray) : showL hs [] = jn hs := by simp [showL, alt_zero]

theorem showL_cons (hs : List ByteArray) (o : ByteArray) (os : List ByteArray) :
    showL hs (o :: os) = jn hs ++ (if os.length = 0 then [32, 111, 114, 32] else [44, 32]) ++ showL (hs ++ [o]) os := by
  have hr : (List.range (o :: os).length).map (alt hs (o :: os)) = jn hs :: (List.range os.length).map (alt (hs ++ [o]) os) := by
    rw [List.length_cons, List.range_succ_eq_map, List.map_cons, alt_zero, List.map_map]
    congr 1
    exact List.map_congr_left (fun i _ => alt_succ hs o os i)
  have hl : alt hs (o :: os) (o :: os).length = alt (hs ++ [o]) os os.length := by rw [List.length_cons, alt_succ]
  unfold showL
  rw [if_neg (by simp), hr, hl]
  by_cases h : os.length = 0
  · rw [if_pos h, if_pos h, h]
    simp [Lib.join_one]
  · rw [if_neg h, if_neg h]
    obtain ⟨k, hk⟩ : ∃ k, os.length = k + 1 := ⟨os.length - 1, by omega⟩
    rw [hk, List.range_succ_eq_map, List.map_cons, join_cons_cons]
    simp
end Go.Proofs.Qxb6600863a.Plain
