import Derived.Test.Qxb6600577aExt
import Derived.Test.Qxb6600577aPrefix
namespace Go.Proofs.Qxb6600577a
open Go.ChangeShapes Go.WideShapes Go.ChangeAt Go.RowKit

/-- What 'lawB1StepBytes' counts. -/
def sbF : Int → List Stp → Int
  | t, [] => t
  | t, s :: r => if (1048576 : Int) < s.peer.size then 2097152 else if (1048576 : Int) < t + (32 + s.peer.size) then 2097152 else sbF (t + (32 + s.peer.size)) r
def sbN (ss : List Stp) : Int := if (65536 : Int) < ss.length then 2097152 else sbF 0 ss

theorem ret_int {k : IntKind} {a b : Int} (h : a = b) : Ending.returned (.int k a) = .returned (.int k b) := by rw [h]

set_option maxHeartbeats 400000 in
theorem stepBytesN (a : Option Addr) (len cap : Nat) (ss : List Stp) (w : World) (h : InSteps w a len ss) (hsh : ShortS ss) :
    Calls Try.prog 23 #[.slice a len cap] w fun e w' => e = .returned (.int .i64 (sbN ss)) ∧ w' = w := by
  have hl : Hid (ss.length = len) := h.length
  by_cases hbig : (65536 : Int) < (len : Int)
  · have hN : Hid (sbN ss = 2097152) := by unfold Hid sbN; rw [hl.out, if_pos hbig]
    go_enter Try.func23, Try.ntmps23
    go_wp2
    go_ret
    exact ⟨ret_int hN.out.symm, rfl⟩
  have hN : Hid (sbN ss = sbF 0 ss) := by unfold Hid sbN; rw [hl.out, if_neg hbig]
  have hlen : len ≤ 65536 := by omega
  go_enter Try.func23, Try.ntmps23
  go_wp2
  go_loop [3, 4] (fun z i => ∃ (k : Nat) (n : Int), k ≤ len ∧ 0 ≤ n ∧ n ≤ 1048576 ∧ i = .int .i64 k ∧ z = .int .i64 n ∧ Hid (sbF n (ss.drop k) = sbF 0 ss)) (fun _ i => len - (intOf i).toNat)
  case atStart => exact ⟨0, 0, by omega, by omega, by omega, rfl, rfl, rfl⟩
  case round =>
    obtain ⟨k, n, hk, hn0, hn1, rfl, rfl, HF⟩ := hrel
    by_cases hlt : k < len
    · obtain ⟨b, off, p, l, m, rfl, _, hg, hc0, hc1, hc2⟩ := h.get k hlt
      have hp : p.size ≤ 9223372036854775807 := hsh.get hg
      have HD : Hid (sbF 0 ss = if (1048576 : Int) < p.size then 2097152 else if (1048576 : Int) < n + (32 + p.size) then 2097152 else sbF (n + (32 + p.size)) (ss.drop (k + 1))) := by
        have hk' := (List.getElem?_eq_some_iff.1 hg).1
        have he := (List.getElem?_eq_some_iff.1 hg).2
        have := HF.out
        rw [List.drop_eq_getElem_cons hk', he] at this
        unfold Hid
        rw [← this]; rfl
      clear h hg hsh HF
      by_cases h1 : (1048576 : Int) < p.size
      · go_wp2
        go_ret
        exact ⟨ret_int (by rw [hN.out, HD.out, if_pos h1]), rfl⟩
      · by_cases h2 : (1048576 : Int) < n + (32 + p.size)
        · go_wp2
          go_ret
          exact ⟨ret_int (by rw [hN.out, HD.out, if_neg (by omega), if_pos h2]), rfl⟩
        · go_wp2
          go_round
          case rel => exact ⟨k + 1, n + (32 + p.size), by omega, by omega, by omega, by go_num, by go_num, by unfold Hid; rw [HD.out, if_neg (by omega), if_neg (by omega)]⟩
          case measure => simp [intOf]; omega
    · have HE : Hid (sbN ss = n) := by
        unfold Hid
        rw [hN.out, ← HF.out, List.drop_of_length_le (by rw [hl.out]; omega)]; rfl
      go_wp2
      go_ret
      exact ⟨ret_int HE.out.symm, rfl⟩

/-- What 'lawB1ToSteps' hands back. -/
def CopyEnd (w : World) (len : Nat) (ss : List Stp) (e : Ending) (w' : World) : Prop :=
  ∃ ao c, e = .returned (.slice ao len c) ∧ Below w.heap.size w w' ∧ (0 < len → ∃ b cur, ao = some ⟨b, 0, none⟩ ∧ w.heap.size ≤ b ∧ w'.heap[b]? = some (.cells cur 46 (0, 0)) ∧ (cur.toList.drop 0).take (len * 3) = flat ss)

theorem flat_take_succ (ss : List Stp) (k : Nat) (s : Stp) (h : ss[k]? = some s) : flat (ss.take (k + 1)) = flat (ss.take k) ++ s.cells := by
  obtain ⟨hk, rfl⟩ := List.getElem?_eq_some_iff.1 h
  rw [List.take_succ_eq_append_getElem hk, flat_snoc]

set_option maxRecDepth 20000 in
set_option maxHeartbeats 800000 in
theorem toSteps24 (a : Option Addr) (len cap : Nat) (ss : List Stp) (w : World) (h : InSteps w a len ss) (hlen : len ≤ 65536) :
    Calls Try.prog 24 #[.slice a len cap] w fun e w' => CopyEnd w len ss e w' := by
  have q34 : ∀ (w : World) (a : Option Addr) (n c n' c' : Nat), (binOp .eql 34 (.slice a n c) (.slice none n' c')).run Try.prog w = .ok (.bool a.isNone) w := fun w a n c n' c' => Lib.run_eql_slice_nil w _ _ a n c n' c' Try.underlying34
  cases a with
  | none =>
    have h0 : len = 0 := by
      rcases Nat.eq_zero_or_pos len with h0 | h0
      · exact h0
      · obtain ⟨_, _, hh, _⟩ := h.cells h0; simp at hh
    subst h0
    go_enter Try.func24, Try.ntmps24
    go_wp2
    go_ret
    exact ⟨none, 0, rfl, Below.refl _ _, fun h => absurd h (by omega)⟩
  | some x =>
    obtain ⟨i0, hi, hz0, hz1, hz2⟩ := info_parts Try.info46
    have HL : Hid (ss.length = len) := h.length
    go_enter Try.func24, Try.ntmps24
    go_wp2_with (at_make; refine wpList_make_full _ rfl _ _ 39 rfl w.heap.size 46 i0 (.agg #[.string ByteArray.empty, .int .i64 0, .int .i64 0]) 3 Try.underlying39 hi hz0 hz1 _ _ _ _ len rfl rfl rfl rfl ?b2 ?b3 ?b4 ?_)
    case b2 => rw [hz2]; omega
    case b3 => unfold maxLen; omega
    case b4 => exact Nat.le_refl _
    intro w1 hown hgrow
    have hbel : Below w.heap.size w w1 := (Below.refl _ _).grown hgrow (Nat.le_refl _) (fun k hk => by cases hk)
    obtain ⟨cur0, hcur0, hcs0⟩ : ∃ cur, w1.heap[w.heap.size]? = some (.cells cur 46 (0, 0)) ∧ cur.size = len * 3 := by
      rcases hown.2 with ⟨h', _⟩ | ⟨g', cap', cur, h', _, hg, _, _, hcs, _⟩
      · simp at h'
      · simp only [Value.slice.injEq, Option.some.injEq, Addr.mk.injEq, and_true, true_and] at h'
        obtain ⟨rfl, rfl⟩ := h'
        exact ⟨cur, hg, hcs⟩
    obtain ⟨g, hg⟩ : ∃ g, g = w.heap.size := ⟨_, rfl⟩
    have H1 : Hid (w1.heap[w.heap.size]? = some (.cells cur0 46 (0, 0)) ∧ cur0.size = len * 3) := ⟨hcur0, hcs0⟩
    clear hown hgrow hcur0 hcs0 hi hz0 hz1 hz2
    go_wp2
    rw [← hg]
    have HG : Hid (g = w.heap.size) := hg
    clear hg
    go_loopw [4] (fun i wr => ∃ (k : Nat) (cur : Array Value), k ≤ len ∧ i = .int .i64 k ∧ Hid (wr.heap[g]? = some (.cells cur 46 (0, 0)) ∧ cur.size = len * 3 ∧ cur.toList.take (k * 3) = flat (ss.take k)) ∧ Below w.heap.size w wr) (fun i _ => len - (intOf i).toNat)
    case atStart => exact ⟨0, cur0, by omega, rfl, by rw [HG.out]; exact ⟨H1.out.1, H1.out.2, by simp [flat]⟩, hbel⟩
    case round =>
      clear hbel H1
      obtain ⟨k, cur, hk, rfl, HC, hbel⟩ := hrel
      by_cases hlt : k < len
      · obtain ⟨b, off, p, l, n, he, hb, hsg, hs0, hs1, hs2⟩ := h.get k hlt
        cases he
        have e0 := (hbel.cell (p := ⟨b, off + k * 3, none⟩) hb).trans hs0
        have e1 := (hbel.cell (p := ⟨b, off + k * 3 + 1, none⟩) hb).trans hs1
        have e2 := (hbel.cell (p := ⟨b, off + k * 3 + 2, none⟩) hb).trans hs2
        have HFL : Hid (flat (ss.take (k + 1)) = flat (ss.take k) ++ [.string p, .int .i64 l, .int .i64 n]) := flat_take_succ ss k ⟨p, l, n⟩ hsg
        clear hs0 hs1 hs2 hsg
        go_wp2_with fail
        refine (toStep26 p l n _).mono ?_
        rintro e w2 ⟨rfl, hb2⟩
        obtain ⟨hc1, hc2, hc3⟩ := HC.out
        have hgl : g < wr.heap.size := (Array.getElem?_eq_some_iff.1 hc1).1
        have hg2 : w2.heap[g]? = some (.cells cur 46 (0, 0)) := (hb2.block g hgl).trans hc1
        have hcell : ∀ j, j < 3 → ∃ v, w2.cell? ⟨g, k * 3 + j, none⟩ = some v := fun j hj => by
          rw [cell_of_row w2 g _ cur 46 (0, 0) hg2]
          exact ⟨_, Array.getElem?_eq_getElem (by omega)⟩
        obtain ⟨x0, hx0⟩ := hcell 0 (by omega)
        obtain ⟨x1, hx1⟩ := hcell 1 (by omega)
        obtain ⟨x2, hx2⟩ := hcell 2 (by omega)
        rw [Nat.add_zero] at hx0
        have z0 : w2.frozen? ⟨g, k * 3, none⟩ = false := frozen_of_row w2 g _ cur 46 hg2
        have z1 : w2.frozen? ⟨g, k * 3 + 1, none⟩ = false := frozen_of_row w2 g _ cur 46 hg2
        have z2 : w2.frozen? ⟨g, k * 3 + 2, none⟩ = false := frozen_of_row w2 g _ cur 46 hg2
        have hki : (k : Int) < (len : Int) := by omega
        have hb3 : Below w.heap.size w (((w2.setCell ⟨g, k * 3, none⟩ (.string p)).setCell ⟨g, k * 3 + 1, none⟩ (.int .i64 l)).setCell ⟨g, k * 3 + 2, none⟩ (.int .i64 n)) := by
          have hgw : w.heap.size ≤ g := by rw [HG.out]; exact Nat.le_refl _
          exact (((hbel.trans (hb2.mono hbel.size)).setCell (p := ⟨g, k * 3, none⟩) hgw _).setCell (p := ⟨g, k * 3 + 1, none⟩) hgw _).setCell (p := ⟨g, k * 3 + 2, none⟩) hgw _
        have HC3 : Hid ((((w2.setCell ⟨g, k * 3, none⟩ (.string p)).setCell ⟨g, k * 3 + 1, none⟩ (.int .i64 l)).setCell ⟨g, k * 3 + 2, none⟩ (.int .i64 n)).heap[g]? = some (.cells (put3 cur (k * 3) (.string p) (.int .i64 l) (.int .i64 n)) 46 (0, 0)) ∧ (put3 cur (k * 3) (.string p) (.int .i64 l) (.int .i64 n)).size = len * 3 ∧
            (put3 cur (k * 3) (.string p) (.int .i64 l) (.int .i64 n)).toList.take ((k + 1) * 3) = flat (ss.take (k + 1))) := by
          refine ⟨heap_put3 w2 g _ cur 46 _ _ _ hg2, by rw [put3_size]; exact hc2, ?_⟩
          rw [HFL.out, show (k + 1) * 3 = k * 3 + 3 by omega, List.take_add, put3_take, hc3, put3_at _ _ _ _ _ (by omega)]
        clear hcell hg2 hgl hc1 hc2 hc3 hb2 HC hbel e0 e1 e2 HFL
        go_wp2
        go_roundw
        case rel => exact ⟨k + 1, _, by omega, by go_num, HC3, hb3⟩
        case measure => simp [intOf]; omega
      · obtain rfl : len = k := by omega
        clear hlt hk
        go_wp2
        go_ret
        obtain ⟨hc1, hc2, hc3⟩ := HC.out
        refine ⟨_, _, rfl, hbel, fun _ => ⟨g, cur, rfl, by rw [HG.out]; exact Nat.le_refl _, hc1, ?_⟩⟩
        rw [List.drop_zero, hc3, List.take_of_length_le (by rw [HL.out]; exact Nat.le_refl _)]
end Go.Proofs.Qxb6600577a
