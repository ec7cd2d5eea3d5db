import Derived.Test.Qxb6600577aReady
import Derived.Deep.Cut
namespace Go.Proofs.Qxb6600577a
open Go.ChangeShapes Go.WideShapes Go.ChangeAt Go.RowKit

set_option maxRecDepth 20000 in
set_option maxHeartbeats 2000000 in
/-- 'extend' where the route does not grow in place. -/
theorem extendB (R sz u k c : Nat) (blk : Option Nat) (ao : Option Addr) (xs : List Stp) (p : ByteArray) (l n : Int) (w : World) (hr : RS w R blk sz u) (hh : Handed w R blk u ao k xs) (hk : k < 1048576)
    (hnot : ¬ ∃ g off, 0 < k ∧ u < sz ∧ blk = some g ∧ ao = some ⟨g, off, none⟩ ∧ off + k * 3 = u * 3) :
    Calls Try.prog 33 #[.pointer (some ⟨R, 0, none⟩), .slice ao k c, .agg #[.string p, .int .i64 l, .int .i64 n]] w fun e w' => ExtendEnd w R blk u k xs ⟨p, l, n⟩ e w' := by
  have hbox := hr.box
  have hsz := hr.small
  have hus : u ≤ sz := by
    cases blk with
    | none => have := hr.bare rfl; omega
    | some g => exact (hr.row g rfl).2.2.1
  have c0 : w.cell? ⟨R, 0, none⟩ = some (.slice (blk.map fun g => ⟨g, 0, none⟩) sz sz) := by rw [cell_of_row w R 0 _ 42 (0, 0) hbox]; rfl
  have c1 : w.cell? ⟨R, 1, none⟩ = some (.int .i64 u) := by rw [cell_of_row w R 1 _ 42 (0, 0) hbox]; rfl
  have f0 : w.frozen? ⟨R, 0, none⟩ = false := frozen_of_row w R _ _ 42 hbox
  have f1 : w.frozen? ⟨R, 1, none⟩ = false := frozen_of_row w R _ _ 42 hbox
  have hlt : R < w.heap.size := World.block_lt_of_cell? w _ c0
  have HR : Hid (RS w R blk sz u) := hr
  have HH : Hid (Handed w R blk u ao k xs) := hh
  have HN : Hid (¬ ∃ g off, 0 < k ∧ u < sz ∧ blk = some g ∧ ao = some ⟨g, off, none⟩ ∧ off + k * 3 = u * 3) := hnot
  clear hr hh hnot hbox
  go_enter Try.func33, Try.ntmps33
  go_upto_region 2 with fail
  go_cut [41] from 11 (fun t wr => t = .bool false ∧ ∃ q, wr = (w.alloc (.cells #[.string p, .int .i64 l, .int .i64 n] 46)).drewN q)
  case first =>
    by_cases hk0 : k = 0
    · have hd : decide ((0 : Int) < (k : Int)) = false := decide_eq_false (by omega)
      have hd' : decide (0 < k) = false := decide_eq_false (by omega)
      clear hk0
      go_quiet (fail)
      go_wp2
      go_meet
      case rel => exact ⟨rfl, _, rfl⟩
    · have hk1 : (0 : Int) < (k : Int) := by omega
      have hk2 : 0 < k := by omega
      by_cases hu : u < sz
      · obtain ⟨g, rfl⟩ : ∃ g, blk = some g := by
          cases blk with
          | none => have := HR.out.bare rfl; omega
          | some g => exact ⟨g, rfl⟩
        obtain ⟨b, off, rfl, hd⟩ : ∃ b off, ao = some ⟨b, off, none⟩ ∧ Held w R (some g) u b off k xs := by
          rcases HH.out with ⟨h0, _⟩ | ⟨_, h⟩
          · omega
          · exact h
        obtain ⟨i0, hi, hz0, hz1, hz2⟩ := info_parts Try.info46
        obtain ⟨_, hu0, _, cg, hg, _⟩ := HR.out.row g rfl
        obtain ⟨cb, tb, hb, _⟩ := hd.row
        have hgl : g < w.heap.size := (Array.getElem?_eq_some_iff.1 hg).1
        have hbl := hd.lt
        have heq : ∀ q, (binOp .eql 55 (.pointer (some ⟨b, off + (k - 1) * 3, none⟩)) (.pointer (some ⟨g, (u - 1) * 3, none⟩))).run Try.prog ((w.alloc (.cells #[.string p, .int .i64 l, .int .i64 n] 46)).drewN q) = .ok (.bool false) ((w.alloc (.cells #[.string p, .int .i64 l, .int .i64 n] 46)).drewN q) := fun q => by
          refine run_eql_ptr_other _ Try.underlying55 hi (by rw [hz1]; decide) (fun e => ?_) ((Below.heap_alloc w _ b hbl).trans hb) ((Below.heap_alloc w _ g hgl).trans hg)
          simp only [Addr.mk.injEq, and_true] at e
          refine HN.out ⟨g, off, hk2, hu, rfl, by rw [e.1], ?_⟩
          have := e.2
          omega
        have hu1 : (u : Int) < (sz : Int) := by omega
        have hw1 : IntKind.i64.wrap ((k : Int) - 1) = ((k - 1 : Nat) : Int) := by rw [IntKind.wrap_i64]; omega
        have hw2 : IntKind.i64.wrap ((u : Int) - 1) = ((u - 1 : Nat) : Int) := by rw [IntKind.wrap_i64]; omega
        have hk3 : ((k - 1 : Nat) : Int) < (k : Int) := by omega
        have hu2 : ((u - 1 : Nat) : Int) < (sz : Int) := by omega
        clear hk0 hi hz0 hz1 hz2 hg hb hd
        simp only [Option.map_some] at c0
        go_quiet (fail)
        go_wp2
        go_meet
        case rel => exact ⟨rfl, _, rfl⟩
      · have hd : decide ((u : Int) < (sz : Int)) = false := decide_eq_false (by omega)
        have hd' : decide (u < sz) = false := decide_eq_false hu
        clear hk0 hu
        go_quiet (fail)
        go_wp2
        go_meet
        case rel => exact ⟨rfl, _, rfl⟩
  case rest =>
    obtain ⟨rfl, q, rfl⟩ := hcut
    have hw1 : IntKind.i64.wrap ((sz : Int) - (u : Int)) = ((sz - u : Nat) : Int) := by rw [IntKind.wrap_i64]; omega
    have hw2 : IntKind.i64.wrap ((k : Int) + 1) = ((k + 1 : Nat) : Int) := by rw [IntKind.wrap_i64]; omega
    go_wp2
    go_quiet (fail)
    go_upto_if 91 with fail
    go_cut [] from 11 (fun wr => ∃ g sz' u0, Ready w R blk u k ao xs ⟨p, l, n⟩ wr g sz' u0)
    case first =>
      by_cases hroom : sz - u < k + 1
      · have hri : ((sz - u : Nat) : Int) < ((k + 1 : Nat) : Int) := by omega
        obtain ⟨i0, hi, hz0, hz1, hz2⟩ := info_parts Try.info46
        by_cases hN : (k : Int) + 1 ≤ 256
        · go_wp2_with (at_make; refine wpList_make_full _ rfl _ _ 39 rfl ((w.alloc (.cells #[.string p, .int .i64 l, .int .i64 n] 46)).drewN (q + nq)).heap.size 46 i0 (.agg #[.string ByteArray.empty, .int .i64 0, .int .i64 0]) 3 Try.underlying39 hi hz0 hz1 _ _ _ _ 256 rfl rfl rfl rfl ?b2 ?b3 ?b4 ?_)
          case b2 => rw [hz2]; decide
          case b3 => unfold maxLen; decide
          case b4 => exact Nat.le_refl _
          intro wm hown hgr
          have hbl : wm.heap[R]? = w.heap[R]? := (hgr.block R (by simp; omega) (by simp)).trans (Below.heap_alloc w _ R hlt)
          have m0 : wm.cell? ⟨R, 0, none⟩ = some (.slice (blk.map fun g => ⟨g, 0, none⟩) sz sz) := (World.cell?_of_block (a := ⟨R, 0, none⟩) hbl).trans c0
          have m1 : wm.cell? ⟨R, 1, none⟩ = some (.int .i64 u) := (World.cell?_of_block (a := ⟨R, 1, none⟩) hbl).trans c1
          have mf0 : wm.frozen? ⟨R, 0, none⟩ = false := (World.frozen?_of_block (a := ⟨R, 0, none⟩) hbl).trans f0
          have mf1 : wm.frozen? ⟨R, 1, none⟩ = false := (World.frozen?_of_block (a := ⟨R, 1, none⟩) hbl).trans f1
          have hy : Ready w R blk u k ao xs ⟨p, l, n⟩ ((wm.setCell ⟨R, 0, none⟩ (.slice (some ⟨w.heap.size + 1, 0, none⟩) 256 256)).setCell ⟨R, 1, none⟩ (.int .i64 0)) (w.heap.size + 1) 256 0 := by
            obtain ⟨X, hX⟩ : ∃ X, X = (w.alloc (.cells #[.string p, .int .i64 l, .int .i64 n] 46)).drewN (q + nq) := ⟨_, rfl⟩
            have hXs : X.heap.size = w.heap.size + 1 := by rw [hX]; simp
            rw [← hX] at hgr
            rw [← hXs] at hown ⊢
            exact ready_new HR.out HH.out X wm (q + nq) 256 hX _ hown hgr (by omega) (by omega)
          clear hown hgr hbl hi hz0 hz1 hz2
          go_wp2
          go_meet
          case rel => exact ⟨_, _, _, hy⟩
        · have hNd : ¬ (k : Int) + 1 ≤ 256 := hN
          have hNi : (256 : Int) < (k : Int) + 1 := by omega
          go_wp2_with (at_make; refine wpList_make_full _ rfl _ _ 39 rfl ((w.alloc (.cells #[.string p, .int .i64 l, .int .i64 n] 46)).drewN (q + nq)).heap.size 46 i0 (.agg #[.string ByteArray.empty, .int .i64 0, .int .i64 0]) 3 Try.underlying39 hi hz0 hz1 _ _ _ _ (k + 1) rfl rfl ?b5 ?b6 ?b2 ?b3 ?b4 ?_)
          case b2 => first | omega | (rw [hz2]; omega)
          case b3 => unfold maxLen; omega
          intro wm hown hgr
          have hbl : wm.heap[R]? = w.heap[R]? := (hgr.block R (by simp; omega) (by simp)).trans (Below.heap_alloc w _ R hlt)
          have m0 : wm.cell? ⟨R, 0, none⟩ = some (.slice (blk.map fun g => ⟨g, 0, none⟩) sz sz) := (World.cell?_of_block (a := ⟨R, 0, none⟩) hbl).trans c0
          have m1 : wm.cell? ⟨R, 1, none⟩ = some (.int .i64 u) := (World.cell?_of_block (a := ⟨R, 1, none⟩) hbl).trans c1
          have mf0 : wm.frozen? ⟨R, 0, none⟩ = false := (World.frozen?_of_block (a := ⟨R, 0, none⟩) hbl).trans f0
          have mf1 : wm.frozen? ⟨R, 1, none⟩ = false := (World.frozen?_of_block (a := ⟨R, 1, none⟩) hbl).trans f1
          have hy : Ready w R blk u k ao xs ⟨p, l, n⟩ ((wm.setCell ⟨R, 0, none⟩ (.slice (some ⟨w.heap.size + 1, 0, none⟩) (k + 1) (k + 1))).setCell ⟨R, 1, none⟩ (.int .i64 0)) (w.heap.size + 1) (k + 1) 0 := by
            obtain ⟨X, hX⟩ : ∃ X, X = (w.alloc (.cells #[.string p, .int .i64 l, .int .i64 n] 46)).drewN (q + nq) := ⟨_, rfl⟩
            have hXs : X.heap.size = w.heap.size + 1 := by rw [hX]; simp
            rw [← hX] at hgr
            rw [← hXs] at hown ⊢
            exact ready_new HR.out HH.out X wm (q + nq) (k + 1) hX _ hown hgr (by omega) (by omega)
          clear hown hgr hbl hi hz0 hz1 hz2
          go_wp2
          go_meet
          case rel => exact ⟨_, _, _, hy⟩
      · have hri : decide (((sz - u : Nat) : Int) < ((k + 1 : Nat) : Int)) = false := decide_eq_false (by omega)
        have hri2 : decide (sz - u < k + 1) = false := decide_eq_false hroom
        go_wp2
        go_meet
        case rel =>
          obtain ⟨g, _, hy⟩ := ready_room (s := ⟨p, l, n⟩) HR.out HH.out (by omega) (q + nq)
          exact ⟨g, sz, u, by rw [World.drewN_drewN]; exact hy⟩
    case rest =>
      obtain ⟨g, sz', u0, hy⟩ := hcut
      obtain ⟨cur, hcur, hcs⟩ := hy.row
      have d0 : wc.cell? ⟨R, 0, none⟩ = some (.slice (some ⟨g, 0, none⟩) sz' sz') := by rw [cell_of_row wc R 0 _ 42 (0, 0) hy.box]; rfl
      have d1 : wc.cell? ⟨R, 1, none⟩ = some (.int .i64 u0) := by rw [cell_of_row wc R 1 _ 42 (0, 0) hy.box]; rfl
      have g0 : wc.frozen? ⟨R, 0, none⟩ = false := frozen_of_row wc R _ _ 42 hy.box
      have g1 : wc.frozen? ⟨R, 1, none⟩ = false := frozen_of_row wc R _ _ 42 hy.box
      have s0 : wc.cell? ⟨w.heap.size, 0, none⟩ = some (.string p) := by rw [cell_of_row wc _ 0 _ 46 (0, 0) hy.stp]; rfl
      have s1 : wc.cell? ⟨w.heap.size, 1, none⟩ = some (.int .i64 l) := by rw [cell_of_row wc _ 1 _ 46 (0, 0) hy.stp]; rfl
      have s2 : wc.cell? ⟨w.heap.size, 2, none⟩ = some (.int .i64 n) := by rw [cell_of_row wc _ 2 _ 46 (0, 0) hy.stp]; rfl
      have hroom := hy.room
      have hsm := hy.small
      have hgR := hy.gR
      have hgs := hy.gs
      have hw3 : IntKind.i64.wrap ((u0 : Int) + (k : Int)) = (u0 : Int) + (k : Int) := by rw [IntKind.wrap_i64]; omega
      have hw4 : IntKind.i64.wrap ((u0 : Int) + (k : Int) + 1) = (u0 : Int) + (k : Int) + 1 := by rw [IntKind.wrap_i64]; omega
      have hb1 : (u0 : Int) ≤ (u0 : Int) + (k : Int) + 1 := by omega
      have hb2 : (u0 : Int) + (k : Int) + 1 ≤ (sz' : Int) := by omega
      have hb3 : ¬ sz' = u0 := by omega
      have HY : Hid (Ready w R blk u k ao xs ⟨p, l, n⟩ wc g sz' u0) := hy
      have hl1 : u0 + k + 1 - u0 = k + 1 := by omega
      obtain ⟨i0, hi, hz0, hz1, hz2⟩ := info_parts Try.info46
      have HI : Hid (Try.prog.info? 46 = some i0) := hi
      have HZ : Hid (i0.size = 3) := hz1
      have HCUR : Hid (wc.heap[g]? = some (.cells cur 46 (0, 0))) := hcur
      have HCS : Hid (cur.size = sz' * 3) := hcs
      clear hy c0 c1 f0 f1 hi hz0 hz1 hz2 hcur hcs
      go_wp2
      go_quiet (fail)
      rw [hl1]
      go_wp2_with (refine wpList_copy_cells rfl (.tmp 125) (.tmp 126) 39 39 rfl 46 i0 Try.underlying39 HI.out g (u0 * 3) (k + 1) (k + 1) ao k c rfl rfl cur 46 HCUR.out (flat xs) ?n1 ?n2 ?n3 (flat_one xs) ?_)
      case n1 => rw [flat_len, HY.out.len, HZ.out]; congr 1; exact (Nat.min_eq_left (Nat.le_succ k)).symm
      case n2 =>
        intro hpos
        obtain ⟨b, off, cb, tb, h1, h2, h3⟩ := HY.out.src (Nat.lt_of_lt_of_le hpos (Nat.min_le_left _ _))
        refine ⟨_, h1, fun j v hj => ?_⟩
        have hjl : j < k * 3 := by
          have := (List.getElem?_eq_some_iff.1 hj).1
          rw [flat_len, HY.out.len] at this; exact this
        rw [← h3, List.getElem?_take, if_pos hjl, List.getElem?_drop] at hj
        rw [Addr.add_lit]
        show wc.cell? ⟨b, off + j, none⟩ = some v
        rw [cell_of_row wc b _ cb tb (0, 0) h2]
        simpa using hj
      case n3 => rw [flat_len, HY.out.len, HCS.out]; omega
      intro w2 hgr2 hc2
      rw [← List.append_assoc] at hc2
      have hRl : R < wc.heap.size := (Array.getElem?_eq_some_iff.1 HY.out.box).1
      have hbx : w2.heap[R]? = wc.heap[R]? := hgr2.block R hRl (by simp; omega)
      have hst : w2.heap[w.heap.size]? = wc.heap[w.heap.size]? := hgr2.block _ (Array.getElem?_eq_some_iff.1 HY.out.stp).1 (by simp; omega)
      have e1 : w2.cell? ⟨R, 1, none⟩ = some (.int .i64 u0) := (World.cell?_of_block (a := ⟨R, 1, none⟩) hbx).trans d1
      have e1f : w2.frozen? ⟨R, 1, none⟩ = false := (World.frozen?_of_block (a := ⟨R, 1, none⟩) hbx).trans g1
      have t0 : w2.cell? ⟨w.heap.size, 0, none⟩ = some (.string p) := (World.cell?_of_block (a := ⟨w.heap.size, 0, none⟩) hst).trans s0
      have t1 : w2.cell? ⟨w.heap.size, 1, none⟩ = some (.int .i64 l) := (World.cell?_of_block (a := ⟨w.heap.size, 1, none⟩) hst).trans s1
      have t2 : w2.cell? ⟨w.heap.size, 2, none⟩ = some (.int .i64 n) := (World.cell?_of_block (a := ⟨w.heap.size, 2, none⟩) hst).trans s2
      have hRs : ¬ R = w.heap.size := by omega
      have hc2l : (cur.toList.take (u0 * 3) ++ flat xs ++ cur.toList.drop (u0 * 3 + (flat xs).length)).toArray.size = sz' * 3 := by
        have h1 := HCS.out
        have h2 := flat_len xs
        have h3 := HY.out.len
        simp; omega
      have hcell : ∀ j, j < 3 → ∃ v, w2.cell? ⟨g, u0 * 3 + k * 3 + j, none⟩ = some v := fun j hj => by
        rw [cell_of_row w2 g _ _ 46 (0, 0) hc2]
        exact ⟨_, Array.getElem?_eq_getElem (by rw [hc2l]; omega)⟩
      obtain ⟨x0, hx0⟩ := hcell 0 (by omega)
      obtain ⟨x1, hx1⟩ := hcell 1 (by omega)
      obtain ⟨x2, hx2⟩ := hcell 2 (by omega)
      rw [Nat.add_zero] at hx0
      have z0 : w2.frozen? ⟨g, u0 * 3 + k * 3, none⟩ = false := frozen_of_row w2 g _ _ 46 hc2
      have z1 : w2.frozen? ⟨g, u0 * 3 + k * 3 + 1, none⟩ = false := frozen_of_row w2 g _ _ 46 hc2
      have z2 : w2.frozen? ⟨g, u0 * 3 + k * 3 + 2, none⟩ = false := frozen_of_row w2 g _ _ 46 hc2
      have HG2 : Hid ((wc.drewN nq).grownBy w2 (some g)) := hgr2
      have HC2 : Hid (w2.heap[g]? = some (.cells (cur.toList.take (u0 * 3) ++ flat xs ++ cur.toList.drop (u0 * 3 + (flat xs).length)).toArray 46 (0, 0))) := hc2
      have hkk : (k : Int) < (k : Int) + 1 := by omega
      clear hcell hc2l hc2 hgr2 hbx hst d0 d1 g0 g1 s0 s1 s2 hRl
      go_wp2
      go_ret
      refine endB HY.out nq 0 w2 _ _ ?_ cur HCUR.out HG2.out HC2.out rfl
      omega
end Go.Proofs.Qxb6600577a
