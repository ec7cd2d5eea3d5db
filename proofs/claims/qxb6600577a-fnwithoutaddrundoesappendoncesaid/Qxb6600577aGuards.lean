import Derived.Test.Qxb6600577aBase
namespace Go.Proofs.Qxb6600577a
open Go.ChangeShapes Go.WideShapes Go.ChangeAt Go.RowKit

set_option maxHeartbeats 400000 in
theorem bytes18 (a : Option Addr) (len cap : Nat) (ss : List ByteArray) (z : ByteArray) (w : World) (h : Strs w a len ss) (hshort : Short ss) (hz : z.size ≤ 9223372036854775807) :
    Calls Try.prog 18 #[.slice a len cap, .string z] w fun e w' => SomeBool e ∧ w = w' := by
  by_cases hbig : (1048576 : Int) < (len : Int)
  · go_enter Try.func18, Try.ntmps18
    go_wp2
    go_ret
    exact ⟨SomeBool.mk _, rfl⟩
  have hlen : len ≤ 1048576 := by omega
  go_enter Try.func18, Try.ntmps18
  go_wp2
  go_loop [5, 6] (fun z i => ∃ (k : Nat) (n : Int), k ≤ len ∧ 0 ≤ n ∧ n ≤ 1048576 ∧ i = .int .i64 k ∧ z = .int .i64 n) (fun _ i => len - (intOf i).toNat)
  case atStart => exact ⟨0, len, by omega, by omega, by omega, rfl, rfl⟩
  case round =>
    obtain ⟨k, n, hk, hn0, hn1, rfl, rfl⟩ := hrel
    by_cases hlt : k < len
    · obtain ⟨b, off, rfl, _, hc⟩ := h.cells (by omega)
      have hck := hc k hlt
      obtain ⟨s, hs⟩ : ∃ s, s = ss.getD k ByteArray.empty := ⟨_, rfl⟩
      have hsz := hshort.getD k
      rw [← hs] at hck hsz
      clear hc hs h hshort
      go_wp2
      · go_ret; exact ⟨SomeBool.mk _, rfl⟩
      · go_ret; exact ⟨SomeBool.mk _, rfl⟩
      · go_round
        case rel => exact ⟨k + 1, n + s.size, by omega, by omega, by omega, by go_num, by go_num⟩
        case measure => simp [intOf]; omega
    · go_wp2
      all_goals (go_ret; exact ⟨SomeBool.mk _, rfl⟩)

set_option maxHeartbeats 400000 in
theorem bytes20 (a : Option Addr) (len cap : Nat) (ss : List ByteArray) (z : ByteArray) (w : World) (h : Strs w a len ss) (hshort : Short ss) (hz : z.size ≤ 9223372036854775807) :
    Calls Try.prog 20 #[.slice a len cap, .string z] w fun e w' => SomeBool e ∧ w = w' := by
  by_cases hbig : (1048576 : Int) < (len : Int)
  · go_enter Try.func20, Try.ntmps20
    go_wp2
    go_ret
    exact ⟨SomeBool.mk _, rfl⟩
  have hlen : len ≤ 1048576 := by omega
  go_enter Try.func20, Try.ntmps20
  go_wp2
  go_loop [5, 6] (fun z i => ∃ (k : Nat) (n : Int), k ≤ len ∧ 0 ≤ n ∧ n ≤ 1048576 ∧ i = .int .i64 k ∧ z = .int .i64 n) (fun _ i => len - (intOf i).toNat)
  case atStart => exact ⟨0, len, by omega, by omega, by omega, rfl, rfl⟩
  case round =>
    obtain ⟨k, n, hk, hn0, hn1, rfl, rfl⟩ := hrel
    by_cases hlt : k < len
    · obtain ⟨b, off, rfl, _, hc⟩ := h.cells (by omega)
      have hck := hc k hlt
      obtain ⟨s, hs⟩ : ∃ s, s = ss.getD k ByteArray.empty := ⟨_, rfl⟩
      have hsz := hshort.getD k
      rw [← hs] at hck hsz
      clear hc hs h hshort
      go_wp2
      · go_ret; exact ⟨SomeBool.mk _, rfl⟩
      · go_ret; exact ⟨SomeBool.mk _, rfl⟩
      · go_round
        case rel => exact ⟨k + 1, n + s.size, by omega, by omega, by omega, by go_num, by go_num⟩
        case measure => simp [intOf]; omega
    · go_wp2
      all_goals (go_ret; exact ⟨SomeBool.mk _, rfl⟩)

end Go.Proofs.Qxb6600577a
