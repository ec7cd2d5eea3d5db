import Derived.Test.Qxb6600577aBase
import Derived.Deep.QuietTactic
import Derived.BigQuiet
namespace Go.Proofs.Qxb6600577a
open Go.ChangeShapes Go.WideShapes Go.ChangeAt Go.RowKit
open Plain (once fed without)

/-- A new block, then what a law has left. -/
theorem grownBy_alloc_then {w w' : World} {o : Obj} {row : Option Nat} (h : (w.alloc o).grownBy w' row) : w.grownBy w' row :=
  ⟨h.os, h.tape, h.output, by have := h.size; simp at this; omega, fun k hk hr => (h.block k (by simp; omega) hr).trans (Below.heap_alloc _ _ _ hk)⟩

/-- What a call that hands back a row of strings of the call's own has done: the row; only new blocks and that one row have turned. -/
def RowEnd (base : Nat) (t : TypeId) (w : World) (row : Option Nat) (xs : List ByteArray) (e : Ending) (w' : World) : Prop :=
  ∃ v', e = .returned v' ∧ w'.ownsRow base t 1 v' xs.length (strV xs) ∧ w.grownBy w' row

set_option maxHeartbeats 400000 in
/-- 'appendOnce': a slice of the call's own (or nil). -/
theorem once31 (base : Nat) (ao : Option Addr) (n cap : Nat) (xs : List ByteArray) (a : ByteArray) (w : World) (hown : w.ownsRow base 28 1 (.slice ao n cap) n (strV xs)) (hbase : base ≤ w.heap.size) (hn : n ≤ 1048576) :
    Calls Try.prog 31 #[.slice ao n cap, .string a] w fun e w' => RowEnd base 28 w (Value.slice ao n cap).ownBlock (once ByteArray.empty 4096 xs a) e w' := by
  obtain ⟨ao', cap', hv, hst⟩ := owned_strs hown
  simp only [Value.slice.injEq] at hv
  obtain ⟨rfl, -, rfl⟩ := hv
  have hl := hst.length
  by_cases hb : a = ByteArray.empty
  · have hbl : a.toList.isEmpty = true := by rw [blank_str]; simpa using hb
    have ho : Hid (once ByteArray.empty 4096 xs a = xs) := by unfold Hid once; rw [if_pos (Or.inl hb)]
    clear hb
    go_enter Try.func31, Try.ntmps31
    go_wp2
    go_ret
    rw [ho.out]
    exact ⟨_, rfl, by rw [hl]; exact hown, World.grownBy.refl _ _⟩
  have hbl : a.toList.isEmpty = false := by rw [blank_str]; simpa using hb
  by_cases hfull : (4096 : Int) ≤ (n : Int)
  · have ho : Hid (once ByteArray.empty 4096 xs a = xs) := by unfold Hid once; rw [if_pos (Or.inr (Or.inl (by omega)))]
    clear hb
    go_enter Try.func31, Try.ntmps31
    go_wp2
    go_ret
    rw [ho.out]
    exact ⟨_, rfl, by rw [hl]; exact hown, World.grownBy.refl _ _⟩
  have hroom : (n : Int) < 4096 := by omega
  have HB : Hid (¬ a = ByteArray.empty) := hb
  have HL : Hid (xs.length = n) := hl
  have hd : decide ((4096 : Int) ≤ (n : Int)) = false := decide_eq_false (by omega)
  clear hb hl hfull
  go_enter Try.func31, Try.ntmps31
  go_wp2
  go_loop [17] (fun i => ∃ k : Nat, k ≤ n ∧ i = .int .i64 k ∧ Hid (∀ j, j < k → xs.getD j ByteArray.empty ≠ a)) (fun i => n - (intOf i).toNat)
  case atStart => exact ⟨0, Nat.zero_le _, rfl, fun j hj => absurd hj (by omega)⟩
  case round =>
    obtain ⟨k, hk, rfl, HN⟩ := hrel
    by_cases hlt : k < n
    · obtain ⟨b, off, rfl, _, hc⟩ := hst.cells (by omega)
      have hck := hc k hlt
      obtain ⟨s, hs⟩ : ∃ s, s = xs.getD k ByteArray.empty := ⟨_, rfl⟩
      rw [← hs] at hck
      have HS : Hid (s = xs.getD k ByteArray.empty) := hs
      clear hc hs hst
      by_cases hsa : s = a
      · have ht : (s.toList == a.toList) = true := by rw [beq_str]; simpa using hsa
        have ho : Hid (once ByteArray.empty 4096 xs a = xs) := by
          unfold Hid once
          refine if_pos (Or.inr (Or.inr ?_))
          have hk' : k < xs.length := by rw [HL.out]; exact hlt
          have : a = xs[k] := by rw [← hsa, HS.out]; simp [hk']
          rw [this]; exact List.getElem_mem hk'
        clear hsa
        go_wp2
        go_ret
        rw [ho.out]
        exact ⟨_, rfl, by rw [HL.out]; exact hown, World.grownBy.refl _ _⟩
      · have ht : (s.toList == a.toList) = false := by rw [beq_str]; simpa using hsa
        have HSA : Hid (¬ s = a) := hsa
        clear hsa
        go_wp2
        go_round
        case rel =>
          refine ⟨k + 1, by omega, by go_num, fun j hj => ?_⟩
          by_cases hjk : j = k
          · subst hjk; rw [← HS.out]; exact HSA.out
          · exact HN.out j (by omega)
        case measure => simp [intOf]; omega
    · have hkn : k = n := by omega
      have HO : Hid (once ByteArray.empty 4096 xs a = xs ++ [a]) := by
        unfold Hid once
        rw [if_neg]
        have hl := HL.out
        rintro (h | h | h)
        · exact HB.out h
        · omega
        · obtain ⟨i, hi, rfl⟩ := List.getElem_of_mem h
          exact HN.out i (by omega) (by simp [hi])
      obtain ⟨i0, hi, hz0, hz1, hz2⟩ := info_parts Try.info28
      clear hkn hst
      go_wp2_with (at_builtin; refine wpList_append_own _ rfl _ _ 25 rfl base 28 i0 (.string ByteArray.empty) 1 16 Try.underlying25 hi hz0 hz1 hz2 rfl (by decide) _ _ _ rfl (hown.alloc _) ⟨w.heap.size, 0, none⟩ 1 1 [.string a] rfl rfl ?c1 ?c2 ?c3 ?c4 ?c5 ?_)
      case c2 => first | rfl | exact strV_one [a]
      case c3 => unfold maxLen; omega
      case c4 => omega
      case c5 => first | omega | (simp; omega)
      · intro v' w1 hown' hgrow _
        go_wp2
        go_ret
        rw [HO.out]
        refine ⟨_, rfl, ?_, ?_⟩
        · simpa [strV, HL.out] using hown'
        · exact grownBy_alloc_then hgrow

theorem once12 (base : Nat) (ao : Option Addr) (n cap : Nat) (xs : List ByteArray) (a : ByteArray) (w : World) (hown : w.ownsRow base 28 1 (.slice ao n cap) n (strV xs)) (hbase : base ≤ w.heap.size) (hn : n ≤ 1048576) :
    Calls Try.prog 12 #[.slice ao n cap, .string a] w fun e w' => RowEnd base 28 w (Value.slice ao n cap).ownBlock (once ByteArray.empty 4096 xs a) e w' := by
  go_enter Try.func12, Try.ntmps12
  go_wp2_with (go_at_call 31; refine (once31 base ao n cap xs a _ hown hbase hn).mono ?_; rintro e w' ⟨v', rfl, h1, h2⟩)
  go_ret
  exact ⟨_, rfl, h1, h2⟩

set_option maxHeartbeats 400000 in
/-- 'lawB1IsList' at two slices that hold the same strings. -/
theorem isList17 (a : Option Addr) (n c : Nat) (a' : Option Addr) (c' : Nat) (xs : List ByteArray) (w : World) (h1 : Strs w a n xs) (h2 : Strs w a' n xs) :
    Calls Try.prog 17 #[.slice a n c, .slice a' n c'] w fun e w' => e = .returned (.bool true) ∧ ∃ q, w' = w.drewN q := by
  have hs := h1.small
  go_enter Try.func17, Try.ntmps17
  go_wp2
  go_loopw [5] (fun i wr => ∃ k q : Nat, k ≤ n ∧ i = .int .i64 k ∧ wr = w.drewN q) (fun i _ => n - (intOf i).toNat)
  case atStart => exact ⟨0, 0, by omega, rfl, rfl⟩
  case round =>
    obtain ⟨k, q, hk, rfl, rfl⟩ := hrel
    by_cases hlt : k < n
    · obtain ⟨b, off, rfl, _, hc⟩ := h1.cells (by omega)
      obtain ⟨b', off', rfl, _, hc'⟩ := h2.cells (by omega)
      have hck := hc k hlt
      have hck' := hc' k hlt
      obtain ⟨s, hs⟩ : ∃ s, s = xs.getD k ByteArray.empty := ⟨_, rfl⟩
      rw [← hs] at hck hck'
      have hki : (k : Int) < (n : Int) := by omega
      clear hc hs hc' h1 h2
      go_wp2
      go_quiet (fail)
      go_wp2
      go_round
      case rel => exact ⟨k + 1, _, by omega, by go_num, rfl⟩
      case measure => simp [intOf]; omega
    · go_wp2
      go_ret
      exact ⟨rfl, _, rfl⟩

set_option maxHeartbeats 400000 in
/-- 'lawB1SameAddrs' at two slices that hold the same strings. -/
theorem same15 (a : Option Addr) (n c : Nat) (a' : Option Addr) (c' : Nat) (xs : List ByteArray) (w : World) (h1 : Strs w a n xs) (h2 : Strs w a' n xs) :
    Calls Try.prog 15 #[.slice a n c, .slice a' n c'] w fun e w' => e = .returned (.bool true) ∧ ∃ q, w' = w.drewN q := by
  have hs := h1.small
  go_enter Try.func15, Try.ntmps15
  go_wp2
  go_loopw [5] (fun i wr => ∃ k q : Nat, k ≤ n ∧ i = .int .i64 k ∧ wr = w.drewN q) (fun i _ => n - (intOf i).toNat)
  case atStart => exact ⟨0, 0, by omega, rfl, rfl⟩
  case round =>
    obtain ⟨k, q, hk, rfl, rfl⟩ := hrel
    by_cases hlt : k < n
    · obtain ⟨b, off, rfl, _, hc⟩ := h1.cells (by omega)
      obtain ⟨b', off', rfl, _, hc'⟩ := h2.cells (by omega)
      have hck := hc k hlt
      have hck' := hc' k hlt
      obtain ⟨s, hs⟩ : ∃ s, s = xs.getD k ByteArray.empty := ⟨_, rfl⟩
      rw [← hs] at hck hck'
      have hki : (k : Int) < (n : Int) := by omega
      clear hc hs hc' h1 h2
      go_wp2
      go_quiet (fail)
      go_wp2
      go_round
      case rel => exact ⟨k + 1, _, by omega, by go_num, rfl⟩
      case measure => simp [intOf]; omega
    · go_wp2
      go_ret
      exact ⟨rfl, _, rfl⟩
end Go.Proofs.Qxb6600577a
