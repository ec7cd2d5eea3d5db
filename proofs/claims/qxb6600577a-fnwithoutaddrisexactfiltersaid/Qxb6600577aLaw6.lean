import Derived.Test.Qxb6600577aWalk32
import Derived.Test.Qxb6600577aGuards
namespace Go.Proofs.Qxb6600577a
open Go.ChangeShapes Go.WideShapes Go.ChangeAt Go.RowKit
open Plain (once fed without)

/-- What a row of the call's own says of the world behind: nothing older has turned. -/
theorem RowEnd.open {base : Nat} {t : TypeId} {w w' : World} {row : Option Nat} {xs : List ByteArray} {e : Ending} (h : RowEnd base t w row xs e w') :
    ∃ ao cap, e = .returned (.slice ao xs.length cap) ∧ w'.ownsRow base t 1 (.slice ao xs.length cap) xs.length (strV xs) ∧ Strs w' ao xs.length xs ∧ w.grownBy w' row := by
  obtain ⟨v, rfl, ho, hg⟩ := h
  obtain ⟨ao, cap, rfl, hs⟩ := owned_strs ho
  exact ⟨ao, cap, rfl, ho, hs, hg⟩

set_option maxHeartbeats 800000 in
theorem law6 (a : Option Addr) (len cap : Nat) (ss : List ByteArray) (z : ByteArray) (w : World) (h : Strs w a len ss) (hshort : Short ss) (hzs : z.size ≤ 9223372036854775807) :
    Calls Try.prog 6 #[.slice a len cap, .string z] w fun e w' => e = .returned (.bool true) ∧ Below w.heap.size w w' := by
  have hsm := h.small
  have hl : Hid (ss.length = len) := h.length
  go_enter Try.func6, Try.ntmps6
  go_wp2_with fail
  refine (bytes20 a len cap ss z w h hshort hzs).mono ?_
  rintro e w' ⟨⟨b, rfl⟩, rfl⟩
  cases b
  · go_wp2
    go_ret
    exact ⟨rfl, Below.refl _ _⟩
  by_cases hbig : (65536 : Int) < (len : Int)
  · go_wp2
    go_ret
    exact ⟨rfl, Below.refl _ _⟩
  have hd1 : decide ((65536 : Int) < (len : Int)) = false := decide_eq_false hbig
  have hlen : len ≤ 65536 := by omega
  by_cases hzb : (1048576 : Int) < (z.size : Int)
  · go_wp2
    go_ret
    exact ⟨rfl, Below.refl _ _⟩
  have hd2 : decide ((1048576 : Int) < (z.size : Int)) = false := decide_eq_false hzb
  clear hbig hzb
  go_wp2_with fail
  refine (listBytes11 a len cap ss w h hshort).mono ?_
  rintro e w' ⟨⟨n, rfl⟩, rfl⟩
  by_cases hz : 1048576 < wrap64 (n + z.size)
  · go_wp2
    go_ret
    exact ⟨rfl, Below.refl _ _⟩
  have hd3 : decide (1048576 < wrap64 (n + z.size)) = false := decide_eq_false hz
  clear hz
  go_wp2_with fail
  have hsl : ss.length ≤ 65536 := by rw [hl.out]; exact hlen
  have HONE : Hid ((once ByteArray.empty 4096 ss z).length ≤ 65537) := by
    have := (Plain.once_len ByteArray.empty 4096 ss z).2
    exact Nat.le_trans this (by omega)
  -- the left side
  refine (toAddrs13 a len cap ss w h hlen).mono ?_
  intro e w1 hr
  obtain ⟨ao1, c1, rfl, ho1, _, hg1⟩ := hr.open
  have hb1 : Below w.heap.size w w1 := (Below.refl _ _).grown hg1 (Nat.le_refl _) (fun k hk => by cases hk)
  have hs1 := hb1.size
  clear hr hg1
  go_wp2_with fail
  refine (once12 w.heap.size ao1 ss.length c1 ss z w1 ho1 hs1 (by omega)).mono ?_
  intro e w2 hr
  obtain ⟨ao2, c2, rfl, ho2, _, hg2⟩ := hr.open
  have hb2 : Below w.heap.size w w2 := hb1.grown hg2 hs1 (fun k hk => (ho1.lt k hk).1)
  have hs2 := hb2.size
  obtain ⟨n2, hn2⟩ : ∃ n2, n2 = (once ByteArray.empty 4096 ss z).length := ⟨_, rfl⟩
  rw [← hn2] at ho2 ⊢
  have hn2' : n2 ≤ 65537 := by rw [hn2]; exact HONE.out
  clear hr hg2 ho1 hb1 hs1 hn2
  go_wp2_with fail
  refine (without19 w.heap.size ao2 n2 c2 (once ByteArray.empty 4096 ss z) z w2 ho2 (by omega)).mono ?_
  intro e w3 hr
  rw [Plain.without_once] at hr
  obtain ⟨ao3, c3, rfl, ho3, hst3, hg3⟩ := hr.open
  have hb3 : Below w.heap.size w w3 := hb2.grown hg3 hs2 (fun k hk => (ho2.lt k hk).1)
  have hs3 := hb3.size
  obtain ⟨n3, hn3⟩ : ∃ n3, n3 = (without ss z).length := ⟨_, rfl⟩
  rw [← hn3] at hst3 ⊢
  have HN3 : Hid (n3 = (without ss z).length) := hn3
  clear hr hg3 ho2 hb2 hs2 hn3 ho3 hn2'
  -- the right side
  go_wp2_with fail
  refine (toAddrs13 a len cap ss w3 (h.later hb3) hlen).mono ?_
  intro e w4 hr
  obtain ⟨ao4, c4, rfl, ho4, _, hg4⟩ := hr.open
  have hb4 : Below w3.heap.size w3 w4 := (Below.refl _ _).grown hg4 (Nat.le_refl _) (fun k hk => by cases hk)
  have hs4 := hb4.size
  clear hr hg4
  go_wp2_with fail
  refine (without19 w3.heap.size ao4 ss.length c4 ss z w4 ho4 (by omega)).mono ?_
  intro e w5 hr
  obtain ⟨ao5, c5, rfl, ho5, hst5, hg5⟩ := hr.open
  have hb5 : Below w3.heap.size w3 w5 := hb4.grown hg5 hs4 (fun k hk => (ho4.lt k hk).1)
  rw [← HN3.out] at hst5 ⊢
  have hst3' := hst3.later hb5
  have hend : Below w.heap.size w w5 := hb3.trans (hb5.mono hs3)
  clear hr hg5 ho4 hb4 hs4 ho5 hst3 hb3
  go_wp2_with fail
  refine (same15 ao3 n3 c3 ao5 c5 (without ss z) w5 hst3' hst5).mono ?_
  rintro e w6 ⟨rfl, q, rfl⟩
  go_wp2
  go_ret
  exact ⟨rfl, below_drewN hend q⟩
end Go.Proofs.Qxb6600577a
