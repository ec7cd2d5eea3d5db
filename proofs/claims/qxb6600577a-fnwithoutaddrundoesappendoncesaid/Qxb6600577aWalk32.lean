import Derived.Test.Qxb6600577aWithout
namespace Go.Proofs.Qxb6600577a
open Go.ChangeShapes Go.WideShapes Go.ChangeAt Go.RowKit
open Plain (once fed without)

/-- The row in the middle of 'withoutAddr': its head holds what was kept of the first k, from k on it is as it was. -/
structure Mid (xs ys : List ByteArray) (a : ByteArray) (k m : Nat) : Prop where
  length : ys.length = xs.length
  count : m = (without (xs.take k) a).length
  head : ys.take m = without (xs.take k) a
  tail : ys.drop k = xs.drop k
  le : m ≤ k

theorem Mid.start (xs : List ByteArray) (a : ByteArray) : Mid xs xs a 0 0 := ⟨rfl, rfl, rfl, rfl, Nat.le_refl _⟩
theorem Mid.at {xs ys : List ByteArray} {a : ByteArray} {k m : Nat} (h : Mid xs ys a k m) : ys.getD k ByteArray.empty = xs.getD k ByteArray.empty := by
  have := congrArg (fun l => l.getD 0 ByteArray.empty) h.tail
  simpa [List.getD] using this
theorem Mid.drop {xs ys : List ByteArray} {a : ByteArray} {k m : Nat} (h : Mid xs ys a k m) (hk : k < xs.length) (he : xs.getD k ByteArray.empty = a) : Mid xs ys a (k + 1) m := by
  have hw : without (xs.take (k + 1)) a = without (xs.take k) a := by
    rw [List.take_succ_eq_append_getElem hk, Plain.without_snoc, if_pos (by rw [← he]; simp [hk])]; simp
  refine ⟨h.length, by rw [hw]; exact h.count, by rw [hw]; exact h.head, ?_, by have := h.le; omega⟩
  rw [← List.drop_drop, ← List.drop_drop, h.tail]
theorem Mid.keep {xs ys : List ByteArray} {a : ByteArray} {k m : Nat} (h : Mid xs ys a k m) (hk : k < xs.length) (he : xs.getD k ByteArray.empty ≠ a) : Mid xs (ys.set m (xs.getD k ByteArray.empty)) a (k + 1) (m + 1) := by
  have hx : xs.getD k ByteArray.empty = xs[k] := by simp [hk]
  rw [hx] at he ⊢
  have hw : without (xs.take (k + 1)) a = without (xs.take k) a ++ [xs[k]] := by
    rw [List.take_succ_eq_append_getElem hk, Plain.without_snoc, if_neg he]
  have hm := h.le
  have hl := h.length
  refine ⟨by simp [h.length], by rw [hw]; simp [← h.count], ?_, ?_, by omega⟩
  · rw [hw, ← h.head, List.take_set, List.take_succ_eq_append_getElem (by omega), List.set_append_right _ _ (by simp; omega)]
    simp [Nat.min_eq_left (show m ≤ ys.length by omega)]
  · rw [List.drop_set_of_lt (by omega), ← List.drop_drop, ← List.drop_drop, h.tail]

set_option maxHeartbeats 800000 in
/-- 'withoutAddr' on a row of the call's own. -/
theorem without32 (base : Nat) (ao : Option Addr) (n cap : Nat) (xs : List ByteArray) (a : ByteArray) (w : World) (hown : w.ownsRow base 28 1 (.slice ao n cap) n (strV xs)) (hn : n ≤ 1048576) :
    Calls Try.prog 32 #[.slice ao n cap, .string a] w fun e w' => RowEnd base 28 w (Value.slice ao n cap).ownBlock (without xs a) e w' := by
  have hl : xs.length = n := by have := hown.1; simpa [strV] using this
  rcases hown.2 with ⟨hv, rfl⟩ | ⟨g, cap', cur, hv, hb, hg, hnc, hcm, hcs, htk⟩
  · simp only [Value.slice.injEq, true_and] at hv
    obtain ⟨rfl, rfl⟩ := hv
    obtain rfl : xs = [] := List.eq_nil_of_length_eq_zero hl
    go_enter Try.func32, Try.ntmps32
    go_wp2
    refine wp_loop_rounds 1 ?_
    rw [rounds_succ]
    go_wp2
    go_ret
    exact ⟨_, rfl, World.ownsRow_nil _ _ _ _, World.grownBy.refl _ _⟩
  · simp only [Value.slice.injEq, true_and] at hv
    obtain ⟨rfl, rfl⟩ := hv
    have hc63 : cap ≤ 9223372036854775807 := by unfold maxLen at hcm; exact hcm
    have HL : Hid (xs.length = n) := hl
    clear hg hb hcs htk hl hcm
    obtain ⟨i0, hi, hz0, hz1, hz2⟩ := info_parts Try.info28
    go_enter Try.func32, Try.ntmps32
    go_wp2
    go_loopw [5, 12] (fun v i wr => ∃ (k m : Nat) (ys : List ByteArray), k ≤ n ∧ m ≤ k ∧ i = .int .i64 k ∧ v = .slice (some ⟨g, 0, none⟩) m cap ∧ Hid (Mid xs ys a k m) ∧
        wr.ownsRow base 28 1 (.slice (some ⟨g, 0, none⟩) n cap) n (strV ys) ∧ w.grownBy wr (some g)) (fun _ i _ => n - (intOf i).toNat)
    case atStart => exact ⟨0, 0, xs, by omega, by omega, rfl, rfl, Mid.start xs a, hown, World.grownBy.refl _ _⟩
    case round =>
      obtain ⟨k, m, ys, hk, hm, rfl, rfl, HM, hown', hgr⟩ := hrel
      have hsz := hgr.size
      have hyl : ys.length = n := by rw [HM.out.length, HL.out]
      by_cases hlt : k < n
      · have hk' : k < xs.length := by rw [HL.out]; exact hlt
        have hck : wr.cell? ⟨g, k, none⟩ = some (.string (xs.getD k ByteArray.empty)) := by
          rw [hown'.cellAt k (by omega), ← HM.out.at]; exact strV_get _ _ (by omega)
        obtain ⟨s, hs⟩ : ∃ s, s = xs.getD k ByteArray.empty := ⟨_, rfl⟩
        rw [← hs] at hck
        by_cases hsa : s = a
        · have ht : (s.toList == a.toList) = true := by rw [beq_str]; simpa using hsa
          have HM2 : Hid (Mid xs ys a (k + 1) m) := HM.out.drop hk' (by rw [← hs]; exact hsa)
          clear hs hsa hk' HM hyl
          go_wp2
          go_roundw
          case rel => exact ⟨k + 1, m, ys, by omega, by omega, by go_num, rfl, HM2, hown', hgr⟩
          case measure => simp [intOf]; omega
        · have ht : (s.toList == a.toList) = false := by rw [beq_str]; simpa using hsa
          have HM2 : Hid (Mid xs (ys.set m s) a (k + 1) (m + 1)) := by rw [hs]; exact HM.out.keep hk' (by rw [← hs]; exact hsa)
          clear hs hsa hk' HM hyl
          go_wp2_with (at_builtin; refine wpList_append_within _ rfl _ _ 25 rfl base 28 i0 Try.underlying25 hi hz1 g n m cap _ rfl (hown'.alloc _) ?c0 ⟨wr.heap.size, 0, none⟩ (.string s) rfl ?c1 ?c2 ?_)
          case c0 => omega
          case c1 => exact cell_new1 _ _ _
          case c2 => rfl
          intro w1 hown1 hgr1
          have hown2 : w1.ownsRow base 28 1 (.slice (some ⟨g, 0, none⟩) n cap) n (strV (ys.set m s)) := by
            have e : strV (ys.set m s) = (strV ys).set m (.string s) := by unfold strV; rw [List.map_set]
            rw [e]; exact hown1
          have hgr2 : w.grownBy w1 (some g) := grownBy_trans hgr (grownBy_alloc_then hgr1)
          clear hown1 hgr1 hown' hgr
          go_wp2
          go_roundw
          case rel => exact ⟨k + 1, m + 1, ys.set m s, by omega, by omega, by go_num, rfl, HM2, hown2, hgr2⟩
          case measure => simp [intOf]; omega
      · obtain rfl : n = k := by omega
        have hfin : wr.ownsRow base 28 1 (.slice (some ⟨g, 0, none⟩) m cap) m (strV (without xs a)) := by
          have h1 := ownsRow_take hown' hm
          have h2 : (strV ys).take m = strV (without xs a) := by
            unfold strV
            rw [← List.map_take, HM.out.head, List.take_of_length_le (by rw [HL.out]; exact Nat.le_refl _)]
          rw [← h2]; exact h1
        have hml : m = (without xs a).length := by
          have := HM.out.count
          rwa [List.take_of_length_le (by rw [HL.out]; exact Nat.le_refl _)] at this
        have HML : Hid (m = (without xs a).length) := hml
        clear hml hlt hk hyl
        go_wp2
        go_ret
        exact ⟨_, rfl, by rw [← HML.out]; exact hfin, hgr⟩

theorem without19 (base : Nat) (ao : Option Addr) (n cap : Nat) (xs : List ByteArray) (a : ByteArray) (w : World) (hown : w.ownsRow base 28 1 (.slice ao n cap) n (strV xs)) (hn : n ≤ 1048576) :
    Calls Try.prog 19 #[.slice ao n cap, .string a] w fun e w' => RowEnd base 28 w (Value.slice ao n cap).ownBlock (without xs a) e w' := by
  go_enter Try.func19, Try.ntmps19
  go_wp2_with (go_at_call 32; refine (without32 base ao n cap xs a _ hown hn).mono ?_; rintro e w' ⟨v', rfl, h1, h2⟩)
  go_ret
  exact ⟨_, rfl, h1, h2⟩
end Go.Proofs.Qxb6600577a
