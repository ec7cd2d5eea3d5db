import Derived.Test.Qxb6600577aReady
namespace Go.Proofs.Qxb6600577a
open Go.ChangeShapes Go.WideShapes Go.ChangeAt Go.RowKit

/-- What a world behind an extend holds, out of its blocks. -/
theorem endA (R g sz u off k : Nat) (xs : List Stp) (s : Stp) (w w' : World) (hr : RS w R (some g) sz u) (hh : Held w R (some g) u g off k xs) (hu : u < sz) (hoff : off + k * 3 = u * 3)
    (h1 : w'.os = w.os) (h2 : w'.tape = w.tape) (h3 : w'.output = w.output) (h4 : w.heap.size ≤ w'.heap.size)
    (hR1 : w'.heap[R]? = some (.cells #[.slice (some ⟨g, 0, none⟩) sz sz, .int .i64 ((u + 1 : Nat) : Int)] 42 (0, 0)))
    (hg2 : ∀ cur, w.heap[g]? = some (.cells cur 46 (0, 0)) → w'.heap[g]? = some (.cells (put3 cur (u * 3) (.string s.peer) (.int .i64 s.lev) (.int .i64 s.lnk)) 46 (0, 0)))
    (hoth : ∀ b, b < w.heap.size → b ≠ R → b ≠ g → w'.heap[b]? = w.heap[b]?) :
    ExtendEnd w R (some g) u k xs s (.returned (.slice (some ⟨g, (u - k) * 3, none⟩) (u + 1 - (u - k)) (u + 1 - (u - k)))) w' := by
  obtain ⟨hgR, hu1, _, cur, hg, hcs⟩ := hr.row g rfl
  have hg2 := hg2 cur hg
  have e1 : u + 1 - (u - k) = k + 1 := by omega
  have e2 : (u - k) * 3 = off := by omega
  rw [e1, e2]
  refine ⟨g, off, sz, u + 1, rfl, ⟨hR1, fun h => (by cases h), fun g' h => ?_, hr.small⟩, ⟨by simp [hh.len], hgR, fun _ => by omega, _, _, hg2, ?_⟩, ⟨h1, h2, h3, h4, fun b hb h1 h2 => hoth b hb h1 (fun e => h2 (by rw [e])), fun g' cur' h h' => ?_⟩, .inr ⟨rfl, by omega⟩⟩
  · cases h
    exact ⟨hgR, by omega, by omega, _, hg2, by rw [put3_size]; exact hcs⟩
  · obtain ⟨cur0, t0, h0, hc0⟩ := hh.row
    rw [hg] at h0
    simp only [Option.some.injEq, Obj.cells.injEq] at h0
    obtain ⟨rfl, rfl, _⟩ := h0
    rw [flat_snoc, show (k + 1) * 3 = k * 3 + 3 by omega, join_take, hoff, put3_at _ _ _ _ _ (by omega), ← hc0]
    congr 1
    exact take_drop_of_take (put3_take cur (u * 3) _ _ _) (by omega)
  · cases h
    rw [hg] at h'
    simp only [Option.some.injEq, Obj.cells.injEq] at h'
    obtain ⟨rfl, _⟩ := h'
    exact ⟨_, hg2, put3_take _ _ _ _ _⟩

/-- The in-place way's world. -/
theorem worldA (w : World) (o : Obj) (q q' R g i : Nat) (a b c d v : Value) (hRl : R < w.heap.size) (hgl : g < w.heap.size) (hgR : g ≠ R) (x : Value)
    (hR : w.heap[R]? = some (.cells #[x, v] 42 (0, 0))) (w' : World)
    (hw : w' = (((((((w.alloc o).drewN q).setCell ⟨g, i, none⟩ a).setCell ⟨g, i + 1, none⟩ b).setCell ⟨g, i + 2, none⟩ c).setCell ⟨R, 1, none⟩ d).drewN q')) :
    w'.os = w.os ∧ w'.tape = w.tape ∧ w'.output = w.output ∧ w.heap.size ≤ w'.heap.size ∧ w'.heap[R]? = some (.cells #[x, d] 42 (0, 0)) ∧
      (∀ cur, w.heap[g]? = some (.cells cur 46 (0, 0)) → w'.heap[g]? = some (.cells (put3 cur i a b c) 46 (0, 0))) ∧ (∀ k, k < w.heap.size → k ≠ R → k ≠ g → w'.heap[k]? = w.heap[k]?) := by
  obtain ⟨w1, hw1⟩ : ∃ w1, w1 = (w.alloc o).drewN q := ⟨_, rfl⟩
  have hh1 : ∀ k, k < w.heap.size → w1.heap[k]? = w.heap[k]? := fun k hk => by rw [hw1]; exact Below.heap_alloc w o k hk
  have hs1 : w.heap.size ≤ w1.heap.size := by rw [hw1]; simp
  have ho1 : w1.os = w.os ∧ w1.tape = w.tape ∧ w1.output = w.output := by rw [hw1]; exact ⟨rfl, rfl, rfl⟩
  rw [← hw1] at hw
  obtain ⟨w2, hw2⟩ : ∃ w2, w2 = ((w1.setCell ⟨g, i, none⟩ a).setCell ⟨g, i + 1, none⟩ b).setCell ⟨g, i + 2, none⟩ c := ⟨_, rfl⟩
  have ho2 : w2.os = w1.os ∧ w2.tape = w1.tape ∧ w2.output = w1.output ∧ w2.heap.size = w1.heap.size := by rw [hw2]; exact ⟨rfl, rfl, rfl, by simp⟩
  have hg2 : ∀ cur, w1.heap[g]? = some (.cells cur 46 (0, 0)) → w2.heap[g]? = some (.cells (put3 cur i a b c) 46 (0, 0)) := fun cur h => by rw [hw2]; exact heap_put3 w1 g i cur 46 a b c h
  have hh2 : ∀ k, k ≠ g → w2.heap[k]? = w1.heap[k]? := fun k hk => by rw [hw2]; exact heap_put3_other w1 g i k a b c hk
  rw [← hw2] at hw
  have hh3 : ∀ k, k ≠ R → w'.heap[k]? = w2.heap[k]? := fun k hk => by rw [hw]; exact heap_setCell_other w2 ⟨R, 1, none⟩ k d hk
  have hR3 : w'.heap[R]? = some (.cells (#[x, v].setIfInBounds 1 d) 42 (0, 0)) := by
    rw [hw]; exact heap_setCell_same w2 R 1 #[x, v] 42 d ((hh2 R (Ne.symm hgR)).trans ((hh1 R hRl).trans hR))
  have ho3 : w'.os = w2.os ∧ w'.tape = w2.tape ∧ w'.output = w2.output ∧ w'.heap.size = w2.heap.size := by rw [hw]; exact ⟨rfl, rfl, rfl, by simp⟩
  refine ⟨ho3.1.trans (ho2.1.trans ho1.1), ho3.2.1.trans (ho2.2.1.trans ho1.2.1), ho3.2.2.1.trans (ho2.2.2.1.trans ho1.2.2), ?_, by simpa using hR3, fun cur h => ?_, fun k hk h1 h2 => ?_⟩
  · rw [ho3.2.2.2, ho2.2.2.2]; exact hs1
  · exact (hh3 g hgR).trans (hg2 cur ((hh1 g hgl).trans h))
  · exact (hh3 k h1).trans ((hh2 k h2).trans (hh1 k hk))

set_option maxRecDepth 20000 in
set_option maxHeartbeats 1000000 in
/-- 'extend' where the route ends with the step that was taken in last, and there is room: it grows in place. -/
theorem extendA (R g sz u off k c : Nat) (xs : List Stp) (p : ByteArray) (l n : Int) (w : World) (hr : RS w R (some g) sz u) (hh : Held w R (some g) u g off k xs) (hk : 0 < k) (hu : u < sz) (hoff : off + k * 3 = u * 3) :
    Calls Try.prog 33 #[.pointer (some ⟨R, 0, none⟩), .slice (some ⟨g, off, none⟩) k c, .agg #[.string p, .int .i64 l, .int .i64 n]] w fun e w' => ExtendEnd w R (some g) u k xs ⟨p, l, n⟩ e w' := by
  have HR : Hid (RS w R (some g) sz u) := hr
  have HH : Hid (Held w R (some g) u g off k xs) := hh
  obtain ⟨hgR, hu0, _, cur, hg, hcur⟩ := hr.row g rfl
  have hsz := hr.small
  have hbox := hr.box
  have c0 : w.cell? ⟨R, 0, none⟩ = some (.slice (some ⟨g, 0, none⟩) sz sz) := by rw [cell_of_row w R 0 _ 42 (0, 0) hbox]; rfl
  have c1 : w.cell? ⟨R, 1, none⟩ = some (.int .i64 u) := by rw [cell_of_row w R 1 _ 42 (0, 0) hbox]; rfl
  have f0 : w.frozen? ⟨R, 0, none⟩ = false := frozen_of_row w R _ _ 42 hbox
  have f1 : w.frozen? ⟨R, 1, none⟩ = false := frozen_of_row w R _ _ 42 hbox
  have hk1 : (0 : Int) < (k : Int) := by omega
  have hu1 : (u : Int) < (sz : Int) := by omega
  have hw1 : IntKind.i64.wrap ((k : Int) - 1) = ((k - 1 : Nat) : Int) := by rw [IntKind.wrap_i64]; omega
  have hw2 : IntKind.i64.wrap ((u : Int) - 1) = ((u - 1 : Nat) : Int) := by rw [IntKind.wrap_i64]; omega
  have hku : k ≤ u := by omega
  have hw3 : IntKind.i64.wrap ((u : Int) + 1 - (k : Int)) = ((u + 1 - k : Nat) : Int) := by rw [IntKind.wrap_i64]; omega
  have hw4 : IntKind.i64.wrap (((u + 1 - k : Nat) : Int) - 1) = ((u - k : Nat) : Int) := by rw [IntKind.wrap_i64]; omega
  have hs1 : ((u - k : Nat) : Int) ≤ (u : Int) + 1 := by omega
  have hs2 : (u : Int) + 1 ≤ (sz : Int) := by omega
  have hk2 : ((k - 1 : Nat) : Int) < (k : Int) := by omega
  have hu2 : ((u - 1 : Nat) : Int) < (sz : Int) := by omega
  have hlt : R < w.heap.size := World.block_lt_of_cell? w _ c0
  obtain ⟨i0, hi, hz0, hz1, hz2⟩ := info_parts Try.info46
  have heq : ∀ W : World, (binOp .eql 55 (.pointer (some ⟨g, off + (k - 1) * 3, none⟩)) (.pointer (some ⟨g, (u - 1) * 3, none⟩))).run Try.prog W = .ok (.bool true) W := fun W => by
    rw [show off + (k - 1) * 3 = (u - 1) * 3 by omega]; exact run_eql_ptr_same W _ Try.underlying55 hi
  have hcell : ∀ j, j < 3 → ∃ v, w.cell? ⟨g, u * 3 + j, none⟩ = some v := fun j hj => by
    refine ⟨cur[u * 3 + j]'(by omega), ?_⟩
    rw [cell_of_row w g _ cur 46 (0, 0) hg]; exact Array.getElem?_eq_getElem _
  obtain ⟨x0, hx0⟩ := hcell 0 (by omega)
  obtain ⟨x1, hx1⟩ := hcell 1 (by omega)
  obtain ⟨x2, hx2⟩ := hcell 2 (by omega)
  rw [Nat.add_zero] at hx0
  have fz0 : w.frozen? ⟨g, u * 3, none⟩ = false := frozen_of_row w g _ cur 46 hg
  have fz1 : w.frozen? ⟨g, u * 3 + 1, none⟩ = false := frozen_of_row w g _ cur 46 hg
  have fz2 : w.frozen? ⟨g, u * 3 + 2, none⟩ = false := frozen_of_row w g _ cur 46 hg
  have hgl : g < w.heap.size := (Array.getElem?_eq_some_iff.1 hg).1
  have HO : Hid (off + k * 3 = u * 3) := hoff
  have HB : Hid (w.heap[R]? = some (.cells #[.slice (some ⟨g, 0, none⟩) sz sz, .int .i64 u] 42 (0, 0))) := hbox
  clear hcell hg hoff hcur hbox hr hh hi hz0 hz1 hz2
  go_enter Try.func33, Try.ntmps33
  go_wp2
  go_quiet (fail)
  go_wp2
  go_region
  all_goals go_wp2
  go_quiet (fail)
  go_wp2
  go_ret
  obtain ⟨a1, a2, a3, a4, a5, a6, a7⟩ := worldA w _ _ _ R g (u * 3) _ _ _ _ _ hlt hgl hgR _ HB.out _ rfl
  exact endA R g sz u off k xs ⟨p, l, n⟩ w _ HR.out HH.out hu HO.out a1 a2 a3 a4 a5 a6 a7
end Go.Proofs.Qxb6600577a
