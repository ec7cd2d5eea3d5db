import Derived.Test.Qxb6600863aProg
import Derived.WalkKit
import Derived.ProofKit
import Derived.OpenShut
import Derived.ShutString
import Derived.ChangeOld
import Derived.Below
import Derived.WalkSmall
import Derived.WalkSpells
import Derived.SliceStrings
import Derived.Deep.QuietTactic
import Derived.BigQuiet
import Derived.Lib.AppendZerosOnto
import Derived.Lib.Walk
import Derived.Lib.SliceRun
import Derived.Laws.AppendOwnNone
namespace Go.Proofs.Qxb6600863a
open Go.ChangeShapes Go.WideShapes Go.ChangeAt Go.RowKit

theorem own : ownKnob Try.prog.godebug = none := by kernel_rfl
theorem laidOut : laidOutB Try.prog = true := by kernel_rfl
theorem Try.cells9 : Try.prog.cellsOf 9 = 1 := by kernel_rfl
theorem Try.info9 : (Try.prog.info? 9).map (fun i => (i.zero, i.size, i.bytes)) = some (some (.string ByteArray.empty), 1, 16) := by kernel_rfl
theorem Try.info5 : (Try.prog.info? 5).map (fun i => (i.zero, i.size, i.bytes)) = some (some (.int .u8 0), 1, 1) := by kernel_rfl

/-- What a walk is told of a slice of strings (of whatever string type): its strings; where there is one, its address and cells. -/
structure Strs (w : World) (a : Option Addr) (len : Nat) (ss : List ByteArray) : Prop where
  length : ss.length = len
  small : len ≤ 9223372036854775807
  cells : 0 < len → ∃ b off, a = some ⟨b, off, none⟩ ∧ b < w.heap.size ∧ ∀ i, i < len → w.cell? ⟨b, off + i, none⟩ = some (.string (ss.getD i ByteArray.empty))

theorem Strs.below {w w' : World} {B : Nat} {a : Option Addr} {len : Nat} {ss : List ByteArray} (h : Strs w a len ss) (hb : Below B w w') (hB : ∀ b off, a = some ⟨b, off, none⟩ → b < B) : Strs w' a len ss :=
  ⟨h.length, h.small, fun h0 => by
    obtain ⟨b, off, rfl, hlt, hc⟩ := h.cells h0
    refine ⟨b, off, rfl, by have := hb.size; omega, fun i hi => ?_⟩
    rw [hb.cell (p := ⟨b, off + i, none⟩) (hB b off rfl)]
    exact hc i hi⟩

theorem Strs.later {w w' : World} {a : Option Addr} {len : Nat} {ss : List ByteArray} (h : Strs w a len ss) (hb : Below w.heap.size w w') : Strs w' a len ss :=
  ⟨h.length, h.small, fun h0 => by
    obtain ⟨b, off, rfl, hlt, hc⟩ := h.cells h0
    refine ⟨b, off, rfl, by have := hb.size; omega, fun i hi => ?_⟩
    rw [hb.cell (p := ⟨b, off + i, none⟩) hlt]
    exact hc i hi⟩

/-- Every string is within the model's own reach. -/
def Short (ss : List ByteArray) : Prop := ∀ s ∈ ss, s.size ≤ 9223372036854775807
theorem Short.getD {ss : List ByteArray} (h : Short ss) (i : Nat) : (ss.getD i ByteArray.empty).size ≤ 9223372036854775807 := by
  by_cases hi : i < ss.length
  · have : ss.getD i ByteArray.empty = ss[i] := by simp [hi]
    rw [this]; exact h _ (List.getElem_mem hi)
  · have : ss.getD i ByteArray.empty = ByteArray.empty := by simp [List.getD, List.getElem?_eq_none (Nat.le_of_not_lt hi)]
    rw [this]; decide

theorem beq_str (a b : ByteArray) : (a.toList == b.toList) = decide (a = b) := by
  by_cases h : a = b
  · subst h; simp
  · rw [decide_eq_false h]
    refine beq_eq_false_iff_ne.2 fun he => h ?_
    rw [ByteArray.toList_eq, ByteArray.toList_eq] at he
    cases a; cases b; simp_all

theorem blank_str (a : ByteArray) : a.toList.isEmpty = decide (a = ByteArray.empty) := by
  have := beq_str a ByteArray.empty
  rw [← this]
  cases h : a.toList <;> simp

/-- A row of strings of the call's own: its value's shape, and its cells. -/
def strV (xs : List ByteArray) : List Value := xs.map Value.string
theorem strV_get (xs : List ByteArray) (i : Nat) (h : i < xs.length) : (strV xs)[i]? = some (.string (xs.getD i ByteArray.empty)) := by
  simp [strV, h]
theorem strV_one (xs : List ByteArray) : ∀ u ∈ strV xs, u.oneCell' = true := by
  intro u hu
  obtain ⟨_, _, rfl⟩ := List.mem_map.1 hu
  rfl
theorem owned_strs {w : World} {base : Nat} {e : TypeId} {v : Value} {n : Nat} {xs : List ByteArray} (h : w.ownsRow base e 1 v n (strV xs)) :
    ∃ ao cap, v = .slice ao n cap ∧ Strs w ao n xs := by
  have hl : xs.length = n := by have := h.1; simpa [strV] using this
  rcases h.2 with ⟨rfl, rfl⟩ | ⟨g, cap, cur, rfl, hb, hg, hnc, hcm, hcs, ht⟩
  · exact ⟨none, 0, rfl, hl, by omega, fun h => absurd h (by omega)⟩
  · refine ⟨_, cap, rfl, hl, by unfold maxLen at hcm; omega, fun h0 => ⟨g, 0, rfl, (Array.getElem?_eq_some_iff.1 hg).1, fun i hi => ?_⟩⟩
    rw [Nat.zero_add, World.ownsRow.cellAt h i (by omega)]
    exact strV_get xs i (by omega)

/-- The one cell that 'append(xs, x)' lays first. -/
theorem cell_new1 (w : World) (x : Value) (t : TypeId) : ∀ (j : Nat) u, [x][j]? = some u → (w.alloc (.cells #[x] t)).cell? ((⟨w.heap.size, 0, none⟩ : Addr).add j) = some u := by
  intro j u hj
  match j, hj with
  | 0, hj => simp at hj; subst hj; simp [Addr.add]

/-- Some bool, some int comes back: what it is does not matter. -/
def SomeBool (e : Ending) : Prop := ∃ b : Bool, e = .returned (.bool b)
def SomeInt (e : Ending) : Prop := ∃ n : Int, e = .returned (.int .i64 n)
theorem SomeBool.mk (b : Bool) : SomeBool (.returned (.bool b)) := ⟨b, rfl⟩
theorem SomeInt.mk (n : Int) : SomeInt (.returned (.int .i64 n)) := ⟨n, rfl⟩

/-- A new block, then what a law has left. -/
theorem grownBy_alloc_then {w w' : World} {o : Obj} {row : Option Nat} (h : (w.alloc o).grownBy w' row) : w.grownBy w' row :=
  ⟨h.os, h.tape, h.output, by have := h.size; simp at this; omega, fun k hk hr => (h.block k (by simp; omega) hr).trans (Below.heap_alloc _ _ _ hk)⟩

/-- What a call that hands back a row of strings of the call's own has done: the row; only new blocks and that one row have turned. -/
def RowEnd (base : Nat) (t : TypeId) (w : World) (row : Option Nat) (xs : List ByteArray) (e : Ending) (w' : World) : Prop :=
  ∃ v', e = .returned v' ∧ w'.ownsRow base t 1 v' xs.length (strV xs) ∧ w.grownBy w' row

theorem grownBy_trans {a b c : World} {row : Option Nat} (h : a.grownBy b row) (k : b.grownBy c row) : a.grownBy c row :=
  ⟨k.os.trans h.os, k.tape.trans h.tape, k.output.trans h.output, Nat.le_trans h.size k.size, fun i hi hne => (k.block i (Nat.lt_of_lt_of_le hi h.size) hne).trans (h.block i hi hne)⟩

theorem fill_set {α : Type} (l : List α) (d : α) (k : Nat) (hk : k < l.length) : (l.take k ++ List.replicate (l.length - k) d).set k l[k] = l.take (k + 1) ++ List.replicate (l.length - (k + 1)) d := by
  have h1 : (l.take k).length = k := by simp; omega
  rw [List.set_append_right _ _ (by omega), h1, Nat.sub_self]
  obtain ⟨r, hr⟩ : ∃ r, l.length - k = r + 1 := ⟨l.length - k - 1, by omega⟩
  have hr' : l.length - (k + 1) = r := by omega
  rw [hr, hr', List.replicate_succ, List.set_cons_zero, List.take_succ_eq_append_getElem hk, List.append_assoc]
  rfl

set_option maxHeartbeats 400000 in
/-- 'zzCopyNames': a copy in a row of its own. -/
theorem copyNames7 (a : Option Addr) (len cap : Nat) (ss : List ByteArray) (w : World) (h : Strs w a len ss) (hlen : len ≤ 65536) :
    Calls Try.prog 7 #[.slice a len cap] w fun e w' => RowEnd w.heap.size 9 w none ss e w' := by
  have q22 : ∀ (w : World) (a : Option Addr) (n c n' c' : Nat), (binOp .eql 22 (.slice a n c) (.slice none n' c')).run Try.prog w = .ok (.bool a.isNone) w := fun w a n c n' c' => Lib.run_eql_slice_nil w _ _ a n c n' c' Try.underlying22
  cases a with
  | none =>
    have h0 : ss = [] := by
      rcases Nat.eq_zero_or_pos len with h0 | h0
      · exact List.eq_nil_of_length_eq_zero (by rw [h.length]; exact h0)
      · obtain ⟨_, _, hh, _⟩ := h.cells h0; simp at hh
    subst h0
    go_enter Try.func7, Try.ntmps7
    go_wp2
    go_ret
    exact ⟨_, rfl, World.ownsRow_nil _ _ _ _, World.grownBy.refl _ _⟩
  | some x =>
    obtain ⟨i0, hi, hz0, hz1, hz2⟩ := info_parts Try.info9
    have HL : Hid (ss.length = len) := h.length
    go_enter Try.func7, Try.ntmps7
    go_wp2_with (at_make; refine wpList_make_full _ rfl _ _ 22 rfl w.heap.size 9 i0 (.string ByteArray.empty) 1 Try.underlying22 hi hz0 hz1 _ _ _ _ len rfl rfl rfl rfl ?b2 ?b3 ?b4 ?_)
    case b2 => rw [hz2]; omega
    case b3 => unfold maxLen; omega
    case b4 => exact Nat.le_refl _
    intro w1 hown hgrow
    have hown1 : w1.ownsRow w.heap.size 9 1 (.slice (some ⟨w.heap.size, 0, none⟩) len len) len (strV (ss.take 0 ++ List.replicate (len - 0) ByteArray.empty)) := by
      have e1 : (madeCells #[Value.string ByteArray.empty] len).toList = strV (ss.take 0 ++ List.replicate (len - 0) ByteArray.empty) := by
        rw [toList_madeCells_one]; simp [strV]
      rw [← e1]; exact hown
    have hbel : Below w.heap.size w w1 := (Below.refl _ _).grown hgrow (Nat.le_refl _) (fun k hk => by cases hk)
    clear hown hgrow
    go_wp2
    go_loopw [4] (fun i wr => ∃ k : Nat, k ≤ len ∧ i = .int .i64 k ∧ wr.ownsRow w.heap.size 9 1 (.slice (some ⟨w.heap.size, 0, none⟩) len len) len (strV (ss.take k ++ List.replicate (len - k) ByteArray.empty)) ∧ Below w.heap.size w wr) (fun i _ => len - (intOf i).toNat)
    case atStart => exact ⟨0, by omega, rfl, hown1, hbel⟩
    case round =>
      obtain ⟨k, hk, rfl, hown, hbel'⟩ := hrel
      by_cases hlt : k < len
      · obtain ⟨b, off, hx, hb, hc⟩ := h.cells (by omega)
        cases hx
        have hck := (hbel'.cell (p := ⟨b, off + k, none⟩) hb).trans (hc k hlt)
        have hst := hown.stored k (.string (ss.getD k ByteArray.empty))
        have hfz := hown.frozenAt k
        have hcl : wr.cell? ⟨w.heap.size, k, none⟩ = some (.string ((ss.take k ++ List.replicate (len - k) ByteArray.empty).getD k ByteArray.empty)) := by
          rw [hown.cellAt k (by omega)]
          exact strV_get _ _ (by have := HL.out; simp; omega)
        obtain ⟨s, hs⟩ : ∃ s, s = ss.getD k ByteArray.empty := ⟨_, rfl⟩
        rw [← hs] at hck hst
        have hown2 : (wr.setCell ⟨w.heap.size, k, none⟩ (.string s)).ownsRow w.heap.size 9 1 (.slice (some ⟨w.heap.size, 0, none⟩) len len) len (strV (ss.take (k + 1) ++ List.replicate (len - (k + 1)) ByteArray.empty)) := by
          have hl := HL.out
          have hk' : k < ss.length := by omega
          have e2 : (strV (ss.take k ++ List.replicate (len - k) ByteArray.empty)).set k (.string s) = strV (ss.take (k + 1) ++ List.replicate (len - (k + 1)) ByteArray.empty) := by
            have e3 : s = ss[k] := by rw [hs]; simp [hk']
            rw [e3]
            unfold strV
            rw [← List.map_set, ← hl, fill_set ss ByteArray.empty k hk']
          rw [← e2]; exact hst.1
        have hbel2 : Below w.heap.size w (wr.setCell ⟨w.heap.size, k, none⟩ (.string s)) := hbel'.setCell (Nat.le_refl _) _
        clear hs hst hc h hown hbel hown1 hbel'
        go_wp2
        go_roundw
        case rel => exact ⟨k + 1, by omega, by go_num, hown2, hbel2⟩
        case measure => simp [intOf]; omega
      · obtain rfl : len = k := by omega
        clear hown1 hbel hlt hk
        go_wp2
        go_ret
        refine ⟨_, rfl, ?_, ⟨hbel'.os, hbel'.tape, hbel'.output, hbel'.size, fun k hk _ => hbel'.block k hk⟩⟩
        have hl := HL.out
        rw [Nat.sub_self] at hown
        simp only [List.replicate_zero, List.append_nil] at hown
        rw [List.take_of_length_le (by omega)] at hown
        rw [hl]; exact hown
set_option maxHeartbeats 800000 in
theorem bytes5 (a : Option Addr) (len cap : Nat) (ss : List ByteArray) (a' : Option Addr) (len' cap' : Nat) (ss' : List ByteArray) (w : World) (h : Strs w a len ss) (hshort : Short ss) (h' : Strs w a' len' ss') (hshort' : Short ss') :
    Calls Try.prog 5 #[.slice a len cap, .slice a' len' cap'] w fun e w' => SomeBool e ∧ w = w' := by
  have hsm' := h'.small
  by_cases hbig : (1048576 : Int) < (len : Int)
  · go_enter Try.func5, Try.ntmps5
    go_wp2
    go_ret
    exact ⟨SomeBool.mk _, rfl⟩
  have hlen : len ≤ 1048576 := by omega
  go_enter Try.func5, Try.ntmps5
  go_wp2
  go_loop [5, 6] (fun z i => ∃ (k : Nat) (n : Int), k ≤ len ∧ 0 ≤ n ∧ n ≤ 1048576 ∧ i = .int .i64 k ∧ z = .int .i64 n) (fun _ i => len - (intOf i).toNat)
  case atStart => exact ⟨0, len, by omega, by omega, by omega, rfl, rfl⟩
  case round =>
    obtain ⟨k, n, hk, hn0, hn1, rfl, rfl⟩ := hrel
    by_cases hlt : k < len
    · obtain ⟨b, off, rfl, _, hc⟩ := h.cells (by omega)
      have hck := hc k hlt
      obtain ⟨s, hs⟩ : ∃ s, s = ss.getD k ByteArray.empty := ⟨_, rfl⟩
      have hsz := hshort.getD k
      rw [← hs] at hck hsz
      clear hc hs h hshort h' hshort'
      go_wp2
      · go_ret; exact ⟨SomeBool.mk _, rfl⟩
      · go_ret; exact ⟨SomeBool.mk _, rfl⟩
      · go_round
        case rel => exact ⟨k + 1, n + s.size, by omega, by omega, by omega, by go_num, by go_num⟩
        case measure => simp [intOf]; omega
    · clear h hshort
      by_cases hbig2 : (1048576 : Int) < (len' : Int)
      · go_wp2
        go_ret
        exact ⟨SomeBool.mk _, rfl⟩
      by_cases hbig3 : (1048576 : Int) < n + (len' : Int)
      · go_wp2
        go_ret
        exact ⟨SomeBool.mk _, rfl⟩
      go_wp2
      go_loop [5, 7] (fun z i => ∃ (k : Nat) (n : Int), k ≤ len' ∧ 0 ≤ n ∧ n ≤ 1048576 ∧ i = .int .i64 k ∧ z = .int .i64 n) (fun _ i => len' - (intOf i).toNat)
      case atStart => exact ⟨0, n + len', by omega, by omega, by omega, rfl, rfl⟩
      case round =>
        obtain ⟨k, n, hk, hn0, hn1, rfl, rfl⟩ := hrel
        by_cases hlt : k < len'
        · obtain ⟨b, off, rfl, _, hc⟩ := h'.cells (by omega)
          have hck := hc k hlt
          obtain ⟨s, hs⟩ : ∃ s, s = ss'.getD k ByteArray.empty := ⟨_, rfl⟩
          have hsz := hshort'.getD k
          rw [← hs] at hck hsz
          clear hc hs h' hshort'
          go_wp2
          · go_ret; exact ⟨SomeBool.mk _, rfl⟩
          · go_ret; exact ⟨SomeBool.mk _, rfl⟩
          · go_round
            case rel => exact ⟨k + 1, n + s.size, by omega, by omega, by omega, by go_num, by go_num⟩
            case measure => simp [intOf]; omega
        · go_wp2
          go_ret
          exact ⟨SomeBool.mk _, rfl⟩

set_option maxHeartbeats 800000 in
theorem bytes10 (a : Option Addr) (len cap : Nat) (ss : List ByteArray) (a' : Option Addr) (len' cap' : Nat) (ss' : List ByteArray) (w : World) (h : Strs w a len ss) (hshort : Short ss) (h' : Strs w a' len' ss') (hshort' : Short ss') :
    Calls Try.prog 10 #[.slice a len cap, .slice a' len' cap'] w fun e w' => SomeBool e ∧ w = w' := by
  have hsm' := h'.small
  by_cases hbig : (1048576 : Int) < (len : Int)
  · go_enter Try.func10, Try.ntmps10
    go_wp2
    go_ret
    exact ⟨SomeBool.mk _, rfl⟩
  have hlen : len ≤ 1048576 := by omega
  go_enter Try.func10, Try.ntmps10
  go_wp2
  go_loop [5, 6] (fun z i => ∃ (k : Nat) (n : Int), k ≤ len ∧ 0 ≤ n ∧ n ≤ 1048576 ∧ i = .int .i64 k ∧ z = .int .i64 n) (fun _ i => len - (intOf i).toNat)
  case atStart => exact ⟨0, len, by omega, by omega, by omega, rfl, rfl⟩
  case round =>
    obtain ⟨k, n, hk, hn0, hn1, rfl, rfl⟩ := hrel
    by_cases hlt : k < len
    · obtain ⟨b, off, rfl, _, hc⟩ := h.cells (by omega)
      have hck := hc k hlt
      obtain ⟨s, hs⟩ : ∃ s, s = ss.getD k ByteArray.empty := ⟨_, rfl⟩
      have hsz := hshort.getD k
      rw [← hs] at hck hsz
      clear hc hs h hshort h' hshort'
      go_wp2
      · go_ret; exact ⟨SomeBool.mk _, rfl⟩
      · go_ret; exact ⟨SomeBool.mk _, rfl⟩
      · go_round
        case rel => exact ⟨k + 1, n + s.size, by omega, by omega, by omega, by go_num, by go_num⟩
        case measure => simp [intOf]; omega
    · clear h hshort
      by_cases hbig2 : (1048576 : Int) < (len' : Int)
      · go_wp2
        go_ret
        exact ⟨SomeBool.mk _, rfl⟩
      by_cases hbig3 : (1048576 : Int) < n + (len' : Int)
      · go_wp2
        go_ret
        exact ⟨SomeBool.mk _, rfl⟩
      go_wp2
      go_loop [5, 7] (fun z i => ∃ (k : Nat) (n : Int), k ≤ len' ∧ 0 ≤ n ∧ n ≤ 1048576 ∧ i = .int .i64 k ∧ z = .int .i64 n) (fun _ i => len' - (intOf i).toNat)
      case atStart => exact ⟨0, n + len', by omega, by omega, by omega, rfl, rfl⟩
      case round =>
        obtain ⟨k, n, hk, hn0, hn1, rfl, rfl⟩ := hrel
        by_cases hlt : k < len'
        · obtain ⟨b, off, rfl, _, hc⟩ := h'.cells (by omega)
          have hck := hc k hlt
          obtain ⟨s, hs⟩ : ∃ s, s = ss'.getD k ByteArray.empty := ⟨_, rfl⟩
          have hsz := hshort'.getD k
          rw [← hs] at hck hsz
          clear hc hs h' hshort'
          go_wp2
          · go_ret; exact ⟨SomeBool.mk _, rfl⟩
          · go_ret; exact ⟨SomeBool.mk _, rfl⟩
          · go_round
            case rel => exact ⟨k + 1, n + s.size, by omega, by omega, by omega, by go_num, by go_num⟩
            case measure => simp [intOf]; omega
        · go_wp2
          go_ret
          exact ⟨SomeBool.mk _, rfl⟩

/-- What a list of names weighs: each text, and sixteen for its header. -/
def weigh : List ByteArray → Nat
  | [] => 0
  | s :: r => s.size + 16 + weigh r
theorem weigh_append : ∀ (a b : List ByteArray), weigh (a ++ b) = weigh a + weigh b
  | [], b => by simp [weigh]
  | s :: r, b => by simp only [List.cons_append, weigh]; rw [weigh_append r b]; omega

/-- What 'zzListBytes' answers at the law's limit: the weight, or more than the limit. -/
def Weighed (ss : List ByteArray) (e : Ending) : Prop := ∃ n : Int, e = .returned (.int .i64 n) ∧ 0 ≤ n ∧ n ≤ 65537 ∧ (n ≤ 65536 → (weigh ss : Int) = n)

set_option maxHeartbeats 400000 in
theorem listBytes6 (a : Option Addr) (len cap : Nat) (ss : List ByteArray) (w : World) (h : Strs w a len ss) (hshort : Short ss) :
    Calls Try.prog 6 #[.slice a len cap, .int .i64 65536] w fun e w' => Weighed ss e ∧ w = w' := by
  have hsm := h.small
  have hl : Hid (ss.length = len) := h.length
  go_enter Try.func6, Try.ntmps6
  go_wp2
  go_loop [5, 6] (fun z i => ∃ (k : Nat) (n : Int), k ≤ len ∧ 0 ≤ n ∧ n ≤ 65536 ∧ i = .int .i64 k ∧ z = .int .i64 n ∧ Hid ((weigh (ss.take k) : Int) = n)) (fun _ i => len - (intOf i).toNat)
  case atStart => exact ⟨0, 0, by omega, by omega, by omega, rfl, rfl, by simp [Hid, weigh]⟩
  case round =>
    obtain ⟨k, n, hk, hn0, hn1, rfl, rfl, HW⟩ := hrel
    by_cases hlt : k < len
    · obtain ⟨b, off, rfl, _, hc⟩ := h.cells (by omega)
      have hck := hc k hlt
      obtain ⟨s, hs⟩ : ∃ s, s = ss.getD k ByteArray.empty := ⟨_, rfl⟩
      have hsz := hshort.getD k
      rw [← hs] at hck hsz
      have HN : Hid ((weigh (ss.take (k + 1)) : Int) = n + (s.size + 16)) := by
        have hk' : k < ss.length := by rw [hl.out]; exact hlt
        have h1 := HW.out
        have h2 : ss[k] = s := by rw [hs]; simp [hk']
        unfold Hid
        rw [List.take_succ_eq_append_getElem hk', weigh_append, h2]
        simp only [weigh]
        omega
      clear hc hs h hshort HW
      by_cases h1 : (65536 : Int) < s.size
      · go_wp2
        go_ret
        exact ⟨⟨_, rfl, by omega, by omega, fun h => by omega⟩, rfl⟩
      · by_cases h2 : (65536 : Int) < n + (s.size + 16)
        · go_wp2
          go_ret
          exact ⟨⟨_, rfl, by omega, by omega, fun h => by omega⟩, rfl⟩
        · go_wp2
          go_round
          case rel => exact ⟨k + 1, n + (s.size + 16), by omega, by omega, by omega, by go_num, by go_num, HN⟩
          case measure => simp [intOf]; omega
    · have HE : Hid ((weigh ss : Int) = n) := by
        have := HW.out
        rwa [List.take_of_length_le (by rw [hl.out]; omega)] at this
      clear HW
      go_wp2
      go_ret
      exact ⟨⟨_, rfl, by omega, by omega, fun _ => HE.out⟩, rfl⟩

end Go.Proofs.Qxb6600863a
