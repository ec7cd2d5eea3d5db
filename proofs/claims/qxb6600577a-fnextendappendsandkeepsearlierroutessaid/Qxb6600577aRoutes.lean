import Derived.WalkKit
import Derived.Below
import Derived.WalkSmall
import Derived.Laws.CopyRow
import Derived.Laws.Rows
namespace Go.Proofs.Qxb6600577a
open Go.RowKit

/-- A step of a route. -/
structure Stp where
  peer : ByteArray
  lev : Int
  lnk : Int
def Stp.val (s : Stp) : Value := .agg #[.string s.peer, .int .i64 s.lev, .int .i64 s.lnk]
def Stp.cells (s : Stp) : List Value := [.string s.peer, .int .i64 s.lev, .int .i64 s.lnk]
/-- The cells of a row of steps. -/
def flat (xs : List Stp) : List Value := xs.flatMap Stp.cells
theorem flat_len (xs : List Stp) : (flat xs).length = xs.length * 3 := by
  induction xs with
  | nil => rfl
  | cons x xs ih => simp only [flat, List.flatMap_cons, List.length_append, List.length_cons] at *; rw [ih]; simp [Stp.cells]; omega
theorem flat_snoc (xs : List Stp) (s : Stp) : flat (xs ++ [s]) = flat xs ++ s.cells := by simp [flat]
theorem flat_one (xs : List Stp) : ∀ u ∈ flat xs, u.oneCell' = true := by
  intro u hu
  obtain ⟨s, _, h⟩ := List.mem_flatMap.1 hu
  simp only [Stp.cells, List.mem_cons, List.not_mem_nil, or_false] at h
  rcases h with rfl | rfl | rfl <;> rfl
theorem flat_get (xs : List Stp) (i : Nat) (h : i < xs.length) : ((flat xs).drop (i * 3)).take 3 = (xs[i]).cells := by
  induction xs generalizing i with
  | nil => simp at h
  | cons x xs ih =>
    cases i with
    | zero => simp [flat, Stp.cells]
    | succ i =>
      have e : flat (x :: xs) = x.cells ++ flat xs := by simp [flat]
      have e2 : (i + 1) * 3 = x.cells.length + i * 3 := by simp [Stp.cells]; omega
      rw [e, e2, List.drop_length_add_append]
      simpa using ih i (by simpa using h)

/-- The state of a Routes at block R: its block (none yet, or g: sz steps long), u of them used. -/
structure RS (w : World) (R : Nat) (blk : Option Nat) (sz u : Nat) : Prop where
  box : w.heap[R]? = some (.cells #[.slice (blk.map fun g => ⟨g, 0, none⟩) sz sz, .int .i64 u] 42 (0, 0))
  bare : blk = none → sz = 0 ∧ u = 0
  row : ∀ g, blk = some g → g ≠ R ∧ 1 ≤ u ∧ u ≤ sz ∧ ∃ cur, w.heap[g]? = some (.cells cur 46 (0, 0)) ∧ cur.size = sz * 3
  small : sz ≤ 1048576

/-- A route that was handed out, or handed in: k steps from cell off of block b on; where b is the block in use it ends within what is used. -/
structure Held (w : World) (R : Nat) (blk : Option Nat) (u b off k : Nat) (xs : List Stp) : Prop where
  len : xs.length = k
  ne : b ≠ R
  within : blk = some b → off + k * 3 ≤ u * 3
  row : ∃ cur t, w.heap[b]? = some (.cells cur t (0, 0)) ∧ (cur.toList.drop off).take (k * 3) = flat xs

/-- What an extend leaves as it was: every block but R and the block in use; of that what was used. -/
structure Kept (w w' : World) (R : Nat) (blk : Option Nat) (u : Nat) : Prop where
  os : w'.os = w.os
  tape : w'.tape = w.tape
  output : w'.output = w.output
  size : w.heap.size ≤ w'.heap.size
  block : ∀ b, b < w.heap.size → b ≠ R → blk ≠ some b → w'.heap[b]? = w.heap[b]?
  used : ∀ g cur, blk = some g → w.heap[g]? = some (.cells cur 46 (0, 0)) → ∃ cur', w'.heap[g]? = some (.cells cur' 46 (0, 0)) ∧ cur'.toList.take (u * 3) = cur.toList.take (u * 3)

/-- What an extend does. -/
def ExtendEnd (w : World) (R : Nat) (blk : Option Nat) (u k : Nat) (xs : List Stp) (s : Stp) (e : Ending) (w' : World) : Prop :=
  ∃ g off sz' u', e = .returned (.slice (some ⟨g, off, none⟩) (k + 1) (k + 1)) ∧ RS w' R (some g) sz' u' ∧ Held w' R (some g) u' g off (k + 1) (xs ++ [s]) ∧ Kept w w' R blk u ∧
    (w.heap.size ≤ g ∨ (blk = some g ∧ u ≤ u'))

theorem Held.lt {w : World} {R : Nat} {blk : Option Nat} {u b off k : Nat} {xs : List Stp} (h : Held w R blk u b off k xs) : b < w.heap.size := by
  obtain ⟨cur, t, hb, _⟩ := h.row
  exact (Array.getElem?_eq_some_iff.1 hb).1

theorem take_drop_of_take {α : Type} {l l' : List α} {m off k : Nat} (h : l'.take m = l.take m) (hk : off + k ≤ m) : (l'.drop off).take k = (l.drop off).take k := by
  have e : ∀ (x : List α), (x.drop off).take k = ((x.take m).drop off).take k := fun x => by
    rw [List.drop_take, List.take_take]
    congr 1; omega
  rw [e l', e l, h]

/-- A route that was handed out stands behind a later extend. -/
theorem Held.step {w w' : World} {R : Nat} {blk : Option Nat} {sz u b off k : Nat} {xs : List Stp} (h : Held w R blk u b off k xs) (hr : RS w R blk sz u) (hk : Kept w w' R blk u)
    {g u' : Nat} (hg : w.heap.size ≤ g ∨ (blk = some g ∧ u ≤ u')) : Held w' R (some g) u' b off k xs := by
  have hlt := h.lt
  refine ⟨h.len, h.ne, fun e => ?_, ?_⟩
  · simp only [Option.some.injEq] at e
    rcases hg with hg | ⟨hg, hu⟩
    · omega
    · have := h.within (by rw [hg, e])
      omega
  · obtain ⟨cur, t, hb, hc⟩ := h.row
    by_cases hbk : blk = some b
    · obtain ⟨_, _, _, cur0, h0, _⟩ := hr.row b hbk
      rw [h0] at hb
      simp only [Option.some.injEq, Obj.cells.injEq] at hb
      obtain ⟨rfl, rfl, _⟩ := hb
      obtain ⟨cur', h1, h2⟩ := hk.used b cur0 hbk h0
      exact ⟨cur', 46, h1, (take_drop_of_take h2 (h.within hbk)).trans hc⟩
    · exact ⟨cur, t, (hk.block b hlt h.ne hbk).trans hb, hc⟩

theorem Kept.below {w w' : World} {R : Nat} {blk : Option Nat} {u B : Nat} (h : Kept w w' R blk u) (hB : B ≤ w.heap.size) (hR : B ≤ R) (hb : ∀ g, blk = some g → B ≤ g) : Below B w w' :=
  ⟨h.os, h.tape, h.output, h.size, fun k hk => h.block k (by omega) (by omega) (fun e => by have := hb k e; omega)⟩

/-- A cell of a route. -/
theorem Held.cell {w : World} {R : Nat} {blk : Option Nat} {u b off k : Nat} {xs : List Stp} (h : Held w R blk u b off k xs) (j : Nat) (hj : j < k * 3) : w.cell? ⟨b, off + j, none⟩ = (flat xs)[j]? := by
  obtain ⟨cur, t, hb, hc⟩ := h.row
  rw [cell_of_row w b _ cur t (0, 0) hb, ← hc, List.getElem?_take, if_pos hj, List.getElem?_drop]
  simp

theorem three_of {α : Type} {l : List α} {i : Nat} {a b c : α} (h : (l.drop i).take 3 = [a, b, c]) : l[i]? = some a ∧ l[i + 1]? = some b ∧ l[i + 2]? = some c := by
  have e : ∀ j, j < 3 → l[i + j]? = ([a, b, c] : List α)[j]? := fun j hj => by
    rw [← h, List.getElem?_take, if_pos hj, List.getElem?_drop]
  exact ⟨by simpa using e 0 (by omega), by simpa using e 1 (by omega), by simpa using e 2 (by omega)⟩

/-- A step of a route: its three cells. -/
theorem Held.stp {w : World} {R : Nat} {blk : Option Nat} {u b off k : Nat} {xs : List Stp} (h : Held w R blk u b off k xs) (i : Nat) (hi : i < k) (s : Stp) (hs : xs[i]? = some s) :
    w.cell? ⟨b, off + i * 3, none⟩ = some (.string s.peer) ∧ w.cell? ⟨b, off + i * 3 + 1, none⟩ = some (.int .i64 s.lev) ∧ w.cell? ⟨b, off + i * 3 + 2, none⟩ = some (.int .i64 s.lnk) := by
  have hl := h.len
  obtain ⟨hi', rfl⟩ := List.getElem?_eq_some_iff.1 hs
  obtain ⟨e0, e1, e2⟩ := three_of (flat_get xs i hi')
  refine ⟨?_, ?_, ?_⟩
  · rw [h.cell (i * 3) (by omega), e0]
  · rw [Nat.add_assoc, h.cell (i * 3 + 1) (by omega), e1]
  · rw [Nat.add_assoc, h.cell (i * 3 + 2) (by omega), e2]

/-! ### Three cells laid over a row -/
def put3 (cur : Array Value) (i : Nat) (a b c : Value) : Array Value := ((cur.setIfInBounds i a).setIfInBounds (i + 1) b).setIfInBounds (i + 2) c
theorem put3_size (cur : Array Value) (i : Nat) (a b c : Value) : (put3 cur i a b c).size = cur.size := by simp [put3]
theorem put3_take (cur : Array Value) (i : Nat) (a b c : Value) : (put3 cur i a b c).toList.take i = cur.toList.take i := by
  apply List.ext_getElem?
  intro j
  simp only [put3, Array.toList_setIfInBounds, List.getElem?_take, List.getElem?_set]
  by_cases hj : j < i
  · rw [if_pos hj, if_pos hj, if_neg (by omega), if_neg (by omega), if_neg (by omega)]
  · rw [if_neg hj, if_neg hj]
theorem put3_at (cur : Array Value) (i : Nat) (a b c : Value) (h : i + 3 ≤ cur.size) : ((put3 cur i a b c).toList.drop i).take 3 = [a, b, c] := by
  apply List.ext_getElem?
  intro j
  have hl : cur.toList.length = cur.size := by simp
  by_cases hj : j < 3
  · rw [List.getElem?_take, if_pos hj, List.getElem?_drop]
    simp only [put3, Array.toList_setIfInBounds, List.getElem?_set, List.length_set, hl]
    match j, hj with
    | 0, _ => simp; omega
    | 1, _ => simp; omega
    | 2, _ => simp; omega
  · rw [List.getElem?_eq_none (by simp; omega), List.getElem?_eq_none (by simp; omega)]
theorem heap_put3 (w : World) (g i : Nat) (cur : Array Value) (t : TypeId) (a b c : Value) (h : w.heap[g]? = some (.cells cur t (0, 0))) :
    (((w.setCell ⟨g, i, none⟩ a).setCell ⟨g, i + 1, none⟩ b).setCell ⟨g, i + 2, none⟩ c).heap[g]? = some (.cells (put3 cur i a b c) t (0, 0)) :=
  heap_setCell_same _ g (i + 2) _ t c (heap_setCell_same _ g (i + 1) _ t b (heap_setCell_same w g i cur t a h))
theorem heap_put3_other (w : World) (g i k : Nat) (a b c : Value) (h : k ≠ g) :
    (((w.setCell ⟨g, i, none⟩ a).setCell ⟨g, i + 1, none⟩ b).setCell ⟨g, i + 2, none⟩ c).heap[k]? = w.heap[k]? := by
  rw [heap_setCell_other _ _ _ _ h, heap_setCell_other _ _ _ _ h, heap_setCell_other _ _ _ _ h]

theorem join_take {α : Type} (l : List α) (off m n : Nat) : (l.drop off).take (m + n) = (l.drop off).take m ++ (l.drop (off + m)).take n := by
  rw [List.take_add, List.drop_drop]
end Go.Proofs.Qxb6600577a
