import Derived.Test.Qxb6600577aProg
import Derived.Test.Qxb6600577aPlain
import Derived.WalkKit
import Derived.ProofKit
import Derived.OpenShut
import Derived.ShutString
import Derived.ChangeOld
import Derived.Below
import Derived.WalkSmall
import Derived.SliceStrings
namespace Go.Proofs.Qxb6600577a
open Go.ChangeShapes Go.WideShapes Go.ChangeAt Go.RowKit

theorem own : ownKnob Try.prog.godebug = none := by kernel_rfl
theorem laidOut : laidOutB Try.prog = true := by kernel_rfl
theorem Try.cells9 : Try.prog.cellsOf 9 = 1 := by kernel_rfl
theorem Try.info28 : (Try.prog.info? 28).map (fun i => (i.zero, i.size, i.bytes)) = some (some (.string ByteArray.empty), 1, 16) := by kernel_rfl
theorem Try.info9 : (Try.prog.info? 9).map (fun i => (i.zero, i.size, i.bytes)) = some (some (.string ByteArray.empty), 1, 16) := by kernel_rfl

/-- What a walk is told of a slice of strings (of whatever string type): its strings; where there is one, its address and cells. -/
structure Strs (w : World) (a : Option Addr) (len : Nat) (ss : List ByteArray) : Prop where
  length : ss.length = len
  small : len ≤ 9223372036854775807
  cells : 0 < len → ∃ b off, a = some ⟨b, off, none⟩ ∧ b < w.heap.size ∧ ∀ i, i < len → w.cell? ⟨b, off + i, none⟩ = some (.string (ss.getD i ByteArray.empty))

theorem Strs.below {w w' : World} {B : Nat} {a : Option Addr} {len : Nat} {ss : List ByteArray} (h : Strs w a len ss) (hb : Below B w w') (hB : ∀ b off, a = some ⟨b, off, none⟩ → b < B) : Strs w' a len ss :=
  ⟨h.length, h.small, fun h0 => by
    obtain ⟨b, off, rfl, hlt, hc⟩ := h.cells h0
    refine ⟨b, off, rfl, by have := hb.size; omega, fun i hi => ?_⟩
    rw [hb.cell (p := ⟨b, off + i, none⟩) (hB b off rfl)]
    exact hc i hi⟩

theorem Strs.later {w w' : World} {a : Option Addr} {len : Nat} {ss : List ByteArray} (h : Strs w a len ss) (hb : Below w.heap.size w w') : Strs w' a len ss :=
  ⟨h.length, h.small, fun h0 => by
    obtain ⟨b, off, rfl, hlt, hc⟩ := h.cells h0
    refine ⟨b, off, rfl, by have := hb.size; omega, fun i hi => ?_⟩
    rw [hb.cell (p := ⟨b, off + i, none⟩) hlt]
    exact hc i hi⟩

/-- Every string is within the model's own reach. -/
def Short (ss : List ByteArray) : Prop := ∀ s ∈ ss, s.size ≤ 9223372036854775807
theorem Short.getD {ss : List ByteArray} (h : Short ss) (i : Nat) : (ss.getD i ByteArray.empty).size ≤ 9223372036854775807 := by
  by_cases hi : i < ss.length
  · have : ss.getD i ByteArray.empty = ss[i] := by simp [hi]
    rw [this]; exact h _ (List.getElem_mem hi)
  · have : ss.getD i ByteArray.empty = ByteArray.empty := by simp [List.getD, List.getElem?_eq_none (Nat.le_of_not_lt hi)]
    rw [this]; decide

theorem beq_str (a b : ByteArray) : (a.toList == b.toList) = decide (a = b) := by
  by_cases h : a = b
  · subst h; simp
  · rw [decide_eq_false h]
    refine beq_eq_false_iff_ne.2 fun he => h ?_
    rw [ByteArray.toList_eq, ByteArray.toList_eq] at he
    cases a; cases b; simp_all

theorem blank_str (a : ByteArray) : a.toList.isEmpty = decide (a = ByteArray.empty) := by
  have := beq_str a ByteArray.empty
  rw [← this]
  cases h : a.toList <;> simp

/-- A row of strings of the call's own: its value's shape, and its cells. -/
def strV (xs : List ByteArray) : List Value := xs.map Value.string
theorem strV_get (xs : List ByteArray) (i : Nat) (h : i < xs.length) : (strV xs)[i]? = some (.string (xs.getD i ByteArray.empty)) := by
  simp [strV, h]
theorem strV_one (xs : List ByteArray) : ∀ u ∈ strV xs, u.oneCell' = true := by
  intro u hu
  obtain ⟨_, _, rfl⟩ := List.mem_map.1 hu
  rfl
theorem owned_strs {w : World} {base : Nat} {e : TypeId} {v : Value} {n : Nat} {xs : List ByteArray} (h : w.ownsRow base e 1 v n (strV xs)) :
    ∃ ao cap, v = .slice ao n cap ∧ Strs w ao n xs := by
  have hl : xs.length = n := by have := h.1; simpa [strV] using this
  rcases h.2 with ⟨rfl, rfl⟩ | ⟨g, cap, cur, rfl, hb, hg, hnc, hcm, hcs, ht⟩
  · exact ⟨none, 0, rfl, hl, by omega, fun h => absurd h (by omega)⟩
  · refine ⟨_, cap, rfl, hl, by unfold maxLen at hcm; omega, fun h0 => ⟨g, 0, rfl, (Array.getElem?_eq_some_iff.1 hg).1, fun i hi => ?_⟩⟩
    rw [Nat.zero_add, World.ownsRow.cellAt h i (by omega)]
    exact strV_get xs i (by omega)

/-- The one cell that 'append(xs, x)' lays first. -/
theorem cell_new1 (w : World) (x : Value) (t : TypeId) : ∀ (j : Nat) u, [x][j]? = some u → (w.alloc (.cells #[x] t)).cell? ((⟨w.heap.size, 0, none⟩ : Addr).add j) = some u := by
  intro j u hj
  match j, hj with
  | 0, hj => simp at hj; subst hj; simp [Addr.add]

/-- Some bool, some int comes back: what it is does not matter. -/
def SomeBool (e : Ending) : Prop := ∃ b : Bool, e = .returned (.bool b)
def SomeInt (e : Ending) : Prop := ∃ n : Int, e = .returned (.int .i64 n)
theorem SomeBool.mk (b : Bool) : SomeBool (.returned (.bool b)) := ⟨b, rfl⟩
theorem SomeInt.mk (n : Int) : SomeInt (.returned (.int .i64 n)) := ⟨n, rfl⟩

set_option maxHeartbeats 400000 in
theorem bytes16 (a : Option Addr) (len cap : Nat) (ss : List ByteArray) (w : World) (h : Strs w a len ss) (hshort : Short ss) :
    Calls Try.prog 16 #[.slice a len cap] w fun e w' => SomeBool e ∧ w = w' := by
  by_cases hbig : (1048576 : Int) < (len : Int)
  · go_enter Try.func16, Try.ntmps16
    go_wp2
    go_ret
    exact ⟨SomeBool.mk _, rfl⟩
  have hlen : len ≤ 1048576 := by omega
  go_enter Try.func16, Try.ntmps16
  go_wp2
  go_loop [3, 4] (fun z i => ∃ (k : Nat) (n : Int), k ≤ len ∧ 0 ≤ n ∧ n ≤ 1048576 ∧ i = .int .i64 k ∧ z = .int .i64 n) (fun _ i => len - (intOf i).toNat)
  case atStart => exact ⟨0, len, by omega, by omega, by omega, rfl, rfl⟩
  case round =>
    obtain ⟨k, n, hk, hn0, hn1, rfl, rfl⟩ := hrel
    by_cases hlt : k < len
    · obtain ⟨b, off, rfl, _, hc⟩ := h.cells (by omega)
      have hck := hc k hlt
      obtain ⟨s, hs⟩ : ∃ s, s = ss.getD k ByteArray.empty := ⟨_, rfl⟩
      have hsz := hshort.getD k
      rw [← hs] at hck hsz
      clear hc hs h hshort
      go_wp2
      · go_ret; exact ⟨SomeBool.mk _, rfl⟩
      · go_ret; exact ⟨SomeBool.mk _, rfl⟩
      · go_round
        case rel => exact ⟨k + 1, n + s.size, by omega, by omega, by omega, by go_num, by go_num⟩
        case measure => simp [intOf]; omega
    · go_wp2
      go_ret
      exact ⟨SomeBool.mk _, rfl⟩

set_option maxHeartbeats 400000 in
theorem listBytes11 (a : Option Addr) (len cap : Nat) (ss : List ByteArray) (w : World) (h : Strs w a len ss) (hshort : Short ss) :
    Calls Try.prog 11 #[.slice a len cap] w fun e w' => SomeInt e ∧ w = w' := by
  by_cases hbig : (65536 : Int) < (len : Int)
  · go_enter Try.func11, Try.ntmps11
    go_wp2
    go_ret
    exact ⟨SomeInt.mk _, rfl⟩
  have hlen : len ≤ 65536 := by omega
  go_enter Try.func11, Try.ntmps11
  go_wp2
  go_loop [3, 4] (fun z i => ∃ (k : Nat) (n : Int), k ≤ len ∧ 0 ≤ n ∧ n ≤ 1048576 ∧ i = .int .i64 k ∧ z = .int .i64 n) (fun _ i => len - (intOf i).toNat)
  case atStart => exact ⟨0, 0, by omega, by omega, by omega, rfl, rfl⟩
  case round =>
    obtain ⟨k, n, hk, hn0, hn1, rfl, rfl⟩ := hrel
    by_cases hlt : k < len
    · obtain ⟨b, off, rfl, _, hc⟩ := h.cells (by omega)
      have hck := hc k hlt
      obtain ⟨s, hs⟩ : ∃ s, s = ss.getD k ByteArray.empty := ⟨_, rfl⟩
      have hsz := hshort.getD k
      rw [← hs] at hck hsz
      clear hc hs h hshort
      go_wp2
      · go_ret; exact ⟨SomeInt.mk _, rfl⟩
      · go_ret; exact ⟨SomeInt.mk _, rfl⟩
      · go_round
        case rel => exact ⟨k + 1, n + (16 + s.size), by omega, by omega, by omega, by go_num, by go_num⟩
        case measure => simp [intOf]; omega
    · go_wp2
      go_ret
      exact ⟨SomeInt.mk _, rfl⟩
end Go.Proofs.Qxb6600577a
