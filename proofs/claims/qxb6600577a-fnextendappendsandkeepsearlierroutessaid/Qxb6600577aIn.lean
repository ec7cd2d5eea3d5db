import Derived.Test.Qxb6600577aSteps
import Derived.Test.Qxb6600577aBase
namespace Go.Proofs.Qxb6600577a
open Go.ChangeShapes Go.WideShapes Go.ChangeAt Go.RowKit

/-- What a walk is told of a slice of steps that came in. -/
structure InSteps (w : World) (a : Option Addr) (len : Nat) (ss : List Stp) : Prop where
  length : ss.length = len
  small : len ≤ 9223372036854775807
  cells : 0 < len → ∃ b off, a = some ⟨b, off, none⟩ ∧ b < w.heap.size ∧ ∀ i s, ss[i]? = some s →
    w.cell? ⟨b, off + i * 3, none⟩ = some (.string s.peer) ∧ w.cell? ⟨b, off + i * 3 + 1, none⟩ = some (.int .i64 s.lev) ∧ w.cell? ⟨b, off + i * 3 + 2, none⟩ = some (.int .i64 s.lnk)

theorem InSteps.later {w w' : World} {a : Option Addr} {len : Nat} {ss : List Stp} (h : InSteps w a len ss) (hb : Below w.heap.size w w') : InSteps w' a len ss :=
  ⟨h.length, h.small, fun h0 => by
    obtain ⟨b, off, rfl, hlt, hc⟩ := h.cells h0
    refine ⟨b, off, rfl, by have := hb.size; omega, fun i s hs => ?_⟩
    obtain ⟨h1, h2, h3⟩ := hc i s hs
    exact ⟨(hb.cell (p := ⟨b, _, none⟩) hlt).trans h1, (hb.cell (p := ⟨b, _, none⟩) hlt).trans h2, (hb.cell (p := ⟨b, _, none⟩) hlt).trans h3⟩⟩

theorem InSteps.get {w : World} {a : Option Addr} {len : Nat} {ss : List Stp} (h : InSteps w a len ss) (k : Nat) (hk : k < len) :
    ∃ b off p l n, a = some ⟨b, off, none⟩ ∧ b < w.heap.size ∧ ss[k]? = some ⟨p, l, n⟩ ∧ w.cell? ⟨b, off + k * 3, none⟩ = some (.string p) ∧ w.cell? ⟨b, off + k * 3 + 1, none⟩ = some (.int .i64 l) ∧ w.cell? ⟨b, off + k * 3 + 2, none⟩ = some (.int .i64 n) := by
  obtain ⟨b, off, ha, hlt, hc⟩ := h.cells (by omega)
  have hk' : k < ss.length := by rw [h.length]; exact hk
  have hs : ss[k]? = some ss[k] := List.getElem?_eq_getElem hk'
  obtain ⟨h1, h2, h3⟩ := hc k _ hs
  exact ⟨b, off, ss[k].peer, ss[k].lev, ss[k].lnk, ha, hlt, hs, h1, h2, h3⟩

/-- A route that was handed out, as a slice to be read. -/
theorem Held.inSteps {w : World} {R : Nat} {blk : Option Nat} {u b off k : Nat} {xs : List Stp} (h : Held w R blk u b off k xs) (hk : k ≤ 9223372036854775807) : InSteps w (some ⟨b, off, none⟩) k xs :=
  ⟨h.len, hk, fun _ => ⟨b, off, rfl, h.lt, fun i s hs => h.stp i (by have := (List.getElem?_eq_some_iff.1 hs).1; rw [h.len] at this; exact this) s hs⟩⟩

/-- Every peer is within the model's own reach. -/
def ShortS (ss : List Stp) : Prop := ∀ s ∈ ss, s.peer.size ≤ 9223372036854775807
theorem ShortS.get {ss : List Stp} (h : ShortS ss) {k : Nat} {s : Stp} (hs : ss[k]? = some s) : s.peer.size ≤ 9223372036854775807 := h s (List.mem_of_getElem? hs)

/-- What a walk is told of a slice of ints that came in. -/
structure InInts (w : World) (a : Option Addr) (len : Nat) (zs : List Int) : Prop where
  length : zs.length = len
  small : len ≤ 9223372036854775807
  cells : 0 < len → ∃ b off, a = some ⟨b, off, none⟩ ∧ b < w.heap.size ∧ ∀ i, i < len → w.cell? ⟨b, off + i, none⟩ = some (.int .i64 (zs.getD i 0))

theorem InInts.later {w w' : World} {a : Option Addr} {len : Nat} {zs : List Int} (h : InInts w a len zs) (hb : Below w.heap.size w w') : InInts w' a len zs :=
  ⟨h.length, h.small, fun h0 => by
    obtain ⟨b, off, rfl, hlt, hc⟩ := h.cells h0
    exact ⟨b, off, rfl, by have := hb.size; omega, fun i hi => (hb.cell (p := ⟨b, _, none⟩) hlt).trans (hc i hi)⟩⟩

set_option maxHeartbeats 400000 in
theorem stepBytes23 (a : Option Addr) (len cap : Nat) (ss : List Stp) (w : World) (h : InSteps w a len ss) (hsh : ShortS ss) :
    Calls Try.prog 23 #[.slice a len cap] w fun e w' => SomeInt e ∧ w = w' := by
  by_cases hbig : (65536 : Int) < (len : Int)
  · go_enter Try.func23, Try.ntmps23
    go_wp2
    go_ret
    exact ⟨SomeInt.mk _, rfl⟩
  have hlen : len ≤ 65536 := by omega
  go_enter Try.func23, Try.ntmps23
  go_wp2
  go_loop [3, 4] (fun z i => ∃ (k : Nat) (n : Int), k ≤ len ∧ 0 ≤ n ∧ n ≤ 1048576 ∧ i = .int .i64 k ∧ z = .int .i64 n) (fun _ i => len - (intOf i).toNat)
  case atStart => exact ⟨0, 0, by omega, by omega, by omega, rfl, rfl⟩
  case round =>
    obtain ⟨k, n, hk, hn0, hn1, rfl, rfl⟩ := hrel
    by_cases hlt : k < len
    · obtain ⟨b, off, p, l, m, rfl, _, hg, hc0, hc1, hc2⟩ := h.get k hlt
      have hp : p.size ≤ 9223372036854775807 := hsh.get hg
      clear h hg hsh
      go_wp2
      · go_ret; exact ⟨SomeInt.mk _, rfl⟩
      · go_ret; exact ⟨SomeInt.mk _, rfl⟩
      · go_round
        case rel => exact ⟨k + 1, n + (32 + p.size), by omega, by omega, by omega, by go_num, by go_num⟩
        case measure => simp [intOf]; omega
    · go_wp2
      go_ret
      exact ⟨SomeInt.mk _, rfl⟩

set_option maxHeartbeats 400000 in
theorem bytes29 (a : Option Addr) (len cap : Nat) (a' : Option Addr) (len' cap' : Nat) (ss : List Stp) (w : World) (h : InSteps w a' len' ss) (hsh : ShortS ss) (hsm : len ≤ 9223372036854775807) :
    Calls Try.prog 29 #[.slice a len cap, .slice a' len' cap'] w fun e w' => SomeBool e ∧ w = w' := by
  have hsm' := h.small
  by_cases hbig : (1048576 : Int) < (len : Int)
  · go_enter Try.func29, Try.ntmps29
    go_wp2
    go_ret
    exact ⟨SomeBool.mk _, rfl⟩
  by_cases hbig2 : (1048576 : Int) < (len' : Int)
  · go_enter Try.func29, Try.ntmps29
    go_wp2
    go_ret
    exact ⟨SomeBool.mk _, rfl⟩
  by_cases hbig3 : (1048576 : Int) < (len : Int) + (len' : Int)
  · go_enter Try.func29, Try.ntmps29
    go_wp2
    go_ret
    exact ⟨SomeBool.mk _, rfl⟩
  go_enter Try.func29, Try.ntmps29
  go_wp2
  go_loop [5, 6] (fun z i => ∃ (k : Nat) (n : Int), k ≤ len' ∧ 0 ≤ n ∧ n ≤ 1048576 ∧ i = .int .i64 k ∧ z = .int .i64 n) (fun _ i => len' - (intOf i).toNat)
  case atStart => exact ⟨0, len + len', by omega, by omega, by omega, rfl, rfl⟩
  case round =>
    obtain ⟨k, n, hk, hn0, hn1, rfl, rfl⟩ := hrel
    by_cases hlt : k < len'
    · obtain ⟨b, off, p, l, m, rfl, _, hg, hc0, hc1, hc2⟩ := h.get k hlt
      have hp : p.size ≤ 9223372036854775807 := hsh.get hg
      clear h hg hsh
      go_wp2
      · go_ret; exact ⟨SomeBool.mk _, rfl⟩
      · go_ret; exact ⟨SomeBool.mk _, rfl⟩
      · go_round
        case rel => exact ⟨k + 1, n + p.size, by omega, by omega, by omega, by go_num, by go_num⟩
        case measure => simp [intOf]; omega
    · go_wp2
      go_ret
      exact ⟨SomeBool.mk _, rfl⟩

set_option maxHeartbeats 400000 in
theorem parent30 (a : Option Addr) (len cap : Nat) (zs : List Int) (j : Nat) (w : World) (h : InInts w a len zs) (hj : j < len) :
    Calls Try.prog 30 #[.slice a len cap, .int .i64 j] w fun e w' => e = .returned (.int .i64 (if 0 ≤ zs.getD j 0 ∧ zs.getD j 0 < j then zs.getD j 0 else -1)) ∧ w = w' := by
  obtain ⟨b, off, rfl, _, hc⟩ := h.cells (by omega)
  have hck := hc j hj
  obtain ⟨z, hz⟩ : ∃ z, z = zs.getD j 0 := ⟨_, rfl⟩
  rw [← hz] at hck ⊢
  have hsm := h.small
  clear hc hz h
  by_cases h1 : 0 ≤ z
  · by_cases h2 : z < j
    · rw [if_pos ⟨h1, h2⟩]
      go_enter Try.func30, Try.ntmps30
      go_wp2
      go_ret
      exact ⟨rfl, rfl⟩
    · rw [if_neg (fun h => h2 h.2)]
      have hd : decide (z < (j : Int)) = false := decide_eq_false h2
      go_enter Try.func30, Try.ntmps30
      go_wp2
      go_ret
      exact ⟨rfl, rfl⟩
  · rw [if_neg (fun h => h1 h.1)]
    have hd : decide (0 ≤ z) = false := decide_eq_false h1
    go_enter Try.func30, Try.ntmps30
    go_wp2
    go_ret
    exact ⟨rfl, rfl⟩
end Go.Proofs.Qxb6600577a
