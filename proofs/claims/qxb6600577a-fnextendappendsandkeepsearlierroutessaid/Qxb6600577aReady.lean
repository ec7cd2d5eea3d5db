import Derived.Test.Qxb6600577aCopy3
namespace Go.Proofs.Qxb6600577a
open Go.RowKit
theorem Try.info46 : (Try.prog.info? 46).map (fun i => (i.zero, i.size, i.bytes)) = some (some (.agg #[.string ByteArray.empty, .int .i64 0, .int .i64 0]), 3, 32) := by kernel_rfl

/-- The route that an extend is handed: no step, or a row of steps. -/
def Handed (w : World) (R : Nat) (blk : Option Nat) (u : Nat) (ao : Option Addr) (k : Nat) (xs : List Stp) : Prop :=
  (k = 0 ∧ xs = []) ∨ (0 < k ∧ ∃ b off, ao = some ⟨b, off, none⟩ ∧ Held w R blk u b off k xs)

/-- The world ahead of the copy: there is room for k + 1 steps from u0 on in block g. -/
structure Ready (w : World) (R : Nat) (blk : Option Nat) (u k : Nat) (ao : Option Addr) (xs : List Stp) (s : Stp) (wr : World) (g sz u0 : Nat) : Prop where
  box : wr.heap[R]? = some (.cells #[.slice (some ⟨g, 0, none⟩) sz sz, .int .i64 u0] 42 (0, 0))
  row : ∃ cur, wr.heap[g]? = some (.cells cur 46 (0, 0)) ∧ cur.size = sz * 3
  gR : g ≠ R
  room : u0 + (k + 1) ≤ sz
  small : sz ≤ 1048576
  stp : wr.heap[w.heap.size]? = some (.cells #[.string s.peer, .int .i64 s.lev, .int .i64 s.lnk] 46 (0, 0))
  gs : g ≠ w.heap.size
  src : 0 < k → ∃ b off cb tb, ao = some ⟨b, off, none⟩ ∧ wr.heap[b]? = some (.cells cb tb (0, 0)) ∧ (cb.toList.drop off).take (k * 3) = flat xs
  len : xs.length = k
  kept : Kept w wr R blk u
  fresh : (w.heap.size < g ∧ u0 = 0) ∨ (blk = some g ∧ u0 = u)

/-- There was room. -/
theorem ready_room {w : World} {R : Nat} {blk : Option Nat} {sz u k : Nat} {ao : Option Addr} {xs : List Stp} {s : Stp} (hr : RS w R blk sz u) (hh : Handed w R blk u ao k xs) (hroom : u + (k + 1) ≤ sz) (q : Nat) :
    ∃ g, blk = some g ∧ Ready w R blk u k ao xs s ((w.alloc (.cells #[.string s.peer, .int .i64 s.lev, .int .i64 s.lnk] 46)).drewN q) g sz u := by
  cases blk with
  | none => have := (hr.bare rfl).1; omega
  | some g =>
    obtain ⟨hgR, hu1, hus, cur, hg, hcs⟩ := hr.row g rfl
    have hgl : g < w.heap.size := (Array.getElem?_eq_some_iff.1 hg).1
    have hRl : R < w.heap.size := (Array.getElem?_eq_some_iff.1 hr.box).1
    have hold : ∀ b, b < w.heap.size → ((w.alloc (.cells #[.string s.peer, .int .i64 s.lev, .int .i64 s.lnk] 46)).drewN q).heap[b]? = w.heap[b]? := fun b hb => Below.heap_alloc w _ b hb
    refine ⟨g, rfl, (hold R hRl).trans hr.box, ⟨cur, (hold g hgl).trans hg, hcs⟩, hgR, hroom, hr.small, heap_alloc_new w _, by omega, fun hk => ?_, ?_, ⟨rfl, rfl, rfl, by simp, fun b hb _ _ => hold b hb, fun g' cur' _ h' => ⟨cur', ?_, rfl⟩⟩, .inr ⟨rfl, rfl⟩⟩
    · rcases hh with ⟨h0, _⟩ | ⟨_, b, off, rfl, hh⟩
      · omega
      · obtain ⟨cb, tb, hb, hc⟩ := hh.row
        exact ⟨b, off, cb, tb, rfl, (hold b hh.lt).trans hb, hc⟩
    · rcases hh with ⟨h0, rfl⟩ | ⟨_, b, off, rfl, hh⟩
      · simpa using h0.symm
      · exact hh.len
    · exact (hold g' (Array.getElem?_eq_some_iff.1 h').1).trans h'

/-- A new block was made. -/
theorem ready_new {w : World} {R : Nat} {blk : Option Nat} {sz u k : Nat} {ao : Option Addr} {xs : List Stp} {s : Stp} (hr : RS w R blk sz u) (hh : Handed w R blk u ao k xs) (X wm : World) (q N : Nat)
    (hX : X = (w.alloc (.cells #[.string s.peer, .int .i64 s.lev, .int .i64 s.lnk] 46)).drewN q) (zs : List Value)
    (hown : wm.ownsRow X.heap.size 46 3 (.slice (some ⟨X.heap.size, 0, none⟩) N N) N zs) (hgr : X.grownBy wm none) (hk : k + 1 ≤ N) (hN : N ≤ 1048576) :
    Ready w R blk u k ao xs s ((wm.setCell ⟨R, 0, none⟩ (.slice (some ⟨X.heap.size, 0, none⟩) N N)).setCell ⟨R, 1, none⟩ (.int .i64 0)) X.heap.size N 0 := by
  have hXs : X.heap.size = w.heap.size + 1 := by rw [hX]; simp
  have hRl : R < w.heap.size := (Array.getElem?_eq_some_iff.1 hr.box).1
  have holdX : ∀ b, b < w.heap.size → X.heap[b]? = w.heap[b]? := fun b hb => by rw [hX]; exact Below.heap_alloc w _ b hb
  have hnewX : X.heap[w.heap.size]? = some (.cells #[.string s.peer, .int .i64 s.lev, .int .i64 s.lnk] 46 (0, 0)) := by rw [hX]; exact heap_alloc_new w _
  have hX3 : X.os = w.os ∧ X.tape = w.tape ∧ X.output = w.output := by rw [hX]; exact ⟨rfl, rfl, rfl⟩
  have holdm : ∀ b, b < X.heap.size → wm.heap[b]? = X.heap[b]? := fun b hb => hgr.block b hb (by simp)
  obtain ⟨cur, hcur, hcs⟩ : ∃ cur, wm.heap[X.heap.size]? = some (.cells cur 46 (0, 0)) ∧ cur.size = N * 3 := by
    rcases hown.2 with ⟨h', _⟩ | ⟨g', cap', cur, h', _, hg, _, _, hcs, _⟩
    · simp at h'
    · simp only [Value.slice.injEq, Option.some.injEq, Addr.mk.injEq, and_true, true_and] at h'
      obtain ⟨rfl, rfl⟩ := h'
      exact ⟨cur, hg, hcs⟩
  obtain ⟨wr, hwr⟩ : ∃ wr, wr = (wm.setCell ⟨R, 0, none⟩ (.slice (some ⟨X.heap.size, 0, none⟩) N N)).setCell ⟨R, 1, none⟩ (.int .i64 0) := ⟨_, rfl⟩
  have hoth : ∀ b, b ≠ R → wr.heap[b]? = wm.heap[b]? := fun b hb => by rw [hwr, heap_setCell_other _ ⟨R, 1, none⟩ b _ hb, heap_setCell_other _ ⟨R, 0, none⟩ b _ hb]
  have hRm : wm.heap[R]? = some (.cells #[.slice (blk.map fun g => ⟨g, 0, none⟩) sz sz, .int .i64 u] 42 (0, 0)) := (holdm R (by omega)).trans ((holdX R hRl).trans hr.box)
  have hbox : wr.heap[R]? = some (.cells #[.slice (some ⟨X.heap.size, 0, none⟩) N N, .int .i64 0] 42 (0, 0)) := by
    have h1 := heap_setCell_same wm R 0 _ 42 (.slice (some ⟨X.heap.size, 0, none⟩) N N) hRm
    have h2 := heap_setCell_same _ R 1 _ 42 (.int .i64 0) h1
    rw [hwr]; simpa using h2
  have hmeta : wr.os = wm.os ∧ wr.tape = wm.tape ∧ wr.output = wm.output ∧ wr.heap.size = wm.heap.size := by rw [hwr]; exact ⟨rfl, rfl, rfl, by simp⟩
  have hold : ∀ b, b < w.heap.size → b ≠ R → wr.heap[b]? = w.heap[b]? := fun b hb h1 => (hoth b h1).trans ((holdm b (by omega)).trans (holdX b hb))
  rw [← hwr]
  refine ⟨hbox, ⟨cur, (hoth _ (by omega)).trans hcur, hcs⟩, by omega, by omega, hN, (hoth _ (by omega)).trans ((holdm _ (by omega)).trans hnewX), by omega, fun hk => ?_, ?_, ⟨?_, ?_, ?_, ?_, fun b hb h1 _ => hold b hb h1, fun g cur' hb h' => ⟨cur', ?_, rfl⟩⟩, .inl ⟨by omega, rfl⟩⟩
  · rcases hh with ⟨h0, _⟩ | ⟨_, b, off, rfl, hh⟩
    · omega
    · obtain ⟨cb, tb, hb, hc⟩ := hh.row
      exact ⟨b, off, cb, tb, rfl, (hold b hh.lt hh.ne).trans hb, hc⟩
  · rcases hh with ⟨h0, rfl⟩ | ⟨_, b, off, rfl, hh⟩
    · simpa using h0.symm
    · exact hh.len
  · rw [hmeta.1, hgr.os, hX3.1]
  · rw [hmeta.2.1, hgr.tape, hX3.2.1]
  · rw [hmeta.2.2.1, hgr.output, hX3.2.2]
  · rw [hmeta.2.2.2]; have := hgr.size; omega
  · exact (hold g (Array.getElem?_eq_some_iff.1 h').1 (hr.row g hb).1).trans h'

/-- The end: the steps were copied, the last one laid behind them, the count raised. -/
theorem endB {w : World} {R : Nat} {blk : Option Nat} {u k : Nat} {ao : Option Addr} {xs : List Stp} {s : Stp} {wr : World} {g sz u0 : Nat} (hy : Ready w R blk u k ao xs s wr g sz u0) (q q' : Nat) (w2 w' : World) (U : Int) (hU : U = ((u0 + (k + 1) : Nat) : Int))
    (cur : Array Value) (hcur : wr.heap[g]? = some (.cells cur 46 (0, 0))) (hg2 : (wr.drewN q).grownBy w2 (some g)) (hc2 : w2.heap[g]? = some (.cells (cur.toList.take (u0 * 3) ++ flat xs ++ cur.toList.drop (u0 * 3 + (flat xs).length)).toArray 46 (0, 0)))
    (hw' : w' = (((((w2.setCell ⟨g, u0 * 3 + k * 3, none⟩ (.string s.peer)).setCell ⟨g, u0 * 3 + k * 3 + 1, none⟩ (.int .i64 s.lev)).setCell ⟨g, u0 * 3 + k * 3 + 2, none⟩ (.int .i64 s.lnk)).setCell ⟨R, 1, none⟩ (.int .i64 U)).drewN q')) :
    ExtendEnd w R blk u k xs s (.returned (.slice (some ⟨g, u0 * 3, none⟩) (k + 1) (k + 1))) w' := by
  subst hU
  have hfl := flat_len xs
  have hxl := hy.len
  have hroom := hy.room
  obtain ⟨cur0, h0, hcs⟩ := hy.row
  rw [hcur] at h0
  simp only [Option.some.injEq, Obj.cells.injEq] at h0
  obtain ⟨rfl, _⟩ := h0
  have hcl : cur.toList.length = cur.size := by simp
  obtain ⟨c2, hc2e⟩ : ∃ c2, c2 = (cur.toList.take (u0 * 3) ++ flat xs ++ cur.toList.drop (u0 * 3 + (flat xs).length)).toArray := ⟨_, rfl⟩
  rw [← hc2e] at hc2
  have htl : (cur.toList.take (u0 * 3)).length = u0 * 3 := by simp; omega
  have hc2s : c2.size = sz * 3 := by rw [hc2e]; simp; omega
  have ht1 : c2.toList.take (u0 * 3) = cur.toList.take (u0 * 3) := by
    rw [hc2e, List.toList_toArray, List.append_assoc, List.take_append_of_le_length (by omega), List.take_of_length_le (by omega)]
  have ht2 : (c2.toList.drop (u0 * 3)).take (k * 3) = flat xs := by
    rw [hc2e, List.toList_toArray, List.append_assoc, List.drop_append_of_le_length (by omega), List.drop_of_length_le (by omega), List.nil_append, List.take_append_of_le_length (by omega), List.take_of_length_le (by omega)]
  -- the blocks behind
  obtain ⟨w3, hw3⟩ : ∃ w3, w3 = ((w2.setCell ⟨g, u0 * 3 + k * 3, none⟩ (.string s.peer)).setCell ⟨g, u0 * 3 + k * 3 + 1, none⟩ (.int .i64 s.lev)).setCell ⟨g, u0 * 3 + k * 3 + 2, none⟩ (.int .i64 s.lnk) := ⟨_, rfl⟩
  rw [← hw3] at hw'
  have hg3 : w3.heap[g]? = some (.cells (put3 c2 (u0 * 3 + k * 3) (.string s.peer) (.int .i64 s.lev) (.int .i64 s.lnk)) 46 (0, 0)) := by rw [hw3]; exact heap_put3 w2 g _ c2 46 _ _ _ hc2
  have ho3 : ∀ b, b ≠ g → w3.heap[b]? = w2.heap[b]? := fun b hb => by rw [hw3]; exact heap_put3_other w2 g _ b _ _ _ hb
  have hm3 : w3.os = w2.os ∧ w3.tape = w2.tape ∧ w3.output = w2.output ∧ w3.heap.size = w2.heap.size := by rw [hw3]; exact ⟨rfl, rfl, rfl, by simp⟩
  have hRl : R < wr.heap.size := (Array.getElem?_eq_some_iff.1 hy.box).1
  have ho2 : ∀ b, b < wr.heap.size → b ≠ g → w2.heap[b]? = wr.heap[b]? := fun b hb h1 => hg2.block b hb (by simp [h1])
  have hR3 : w3.heap[R]? = some (.cells #[.slice (some ⟨g, 0, none⟩) sz sz, .int .i64 u0] 42 (0, 0)) := (ho3 R (Ne.symm hy.gR)).trans ((ho2 R hRl (Ne.symm hy.gR)).trans hy.box)
  have hR' : w'.heap[R]? = some (.cells #[.slice (some ⟨g, 0, none⟩) sz sz, .int .i64 ((u0 + (k + 1) : Nat) : Int)] 42 (0, 0)) := by
    have := heap_setCell_same w3 R 1 _ 42 (.int .i64 ((u0 + (k + 1) : Nat) : Int)) hR3
    rw [hw']; simpa using this
  have ho' : ∀ b, b ≠ R → w'.heap[b]? = w3.heap[b]? := fun b hb => by rw [hw']; exact heap_setCell_other w3 ⟨R, 1, none⟩ b _ hb
  have hm' : w'.os = w3.os ∧ w'.tape = w3.tape ∧ w'.output = w3.output ∧ w'.heap.size = w3.heap.size := by rw [hw']; exact ⟨rfl, rfl, rfl, by simp⟩
  have hg' := (ho' g hy.gR).trans hg3
  have hsz2 : wr.heap.size ≤ w2.heap.size := hg2.size
  have hks := hy.kept.size
  have hoth : ∀ b, b < w.heap.size → b ≠ R → b ≠ g → w'.heap[b]? = wr.heap[b]? := fun b hb h1 h2 => (ho' b h1).trans ((ho3 b h2).trans (ho2 b (by omega) h2))
  have hput : (put3 c2 (u0 * 3 + k * 3) (.string s.peer) (.int .i64 s.lev) (.int .i64 s.lnk)).toList.take (u0 * 3) = cur.toList.take (u0 * 3) := by
    have e := put3_take c2 (u0 * 3 + k * 3) (.string s.peer) (.int .i64 s.lev) (.int .i64 s.lnk)
    have e2 := congrArg (List.take (u0 * 3)) e
    rw [List.take_take, List.take_take, Nat.min_eq_left (by omega)] at e2
    rw [e2, ht1]
  refine ⟨g, u0 * 3, sz, u0 + (k + 1), rfl, ⟨hR', fun h => (by cases h), fun g' h => ?_, hy.small⟩, ⟨by simp [hxl], hy.gR, fun _ => by omega, _, _, hg', ?_⟩, ⟨?_, ?_, ?_, ?_, fun b hb h1 h2 => ?_, fun g' cur' hb h' => ?_⟩, ?_⟩
  · cases h
    exact ⟨hy.gR, by omega, by omega, _, hg', by rw [put3_size, hc2s]⟩
  · rw [flat_snoc, show (k + 1) * 3 = k * 3 + 3 by omega, join_take, put3_at _ _ _ _ _ (by omega), ← ht2]
    congr 1
    exact take_drop_of_take (put3_take c2 (u0 * 3 + k * 3) _ _ _) (by omega)
  · rw [hm'.1, hm3.1, hg2.os]; exact hy.kept.os
  · rw [hm'.2.1, hm3.2.1, hg2.tape]; exact hy.kept.tape
  · rw [hm'.2.2.1, hm3.2.2.1, hg2.output]; exact hy.kept.output
  · rw [hm'.2.2.2, hm3.2.2.2]; omega
  · have hbg : b ≠ g := by
      rintro rfl
      rcases hy.fresh with ⟨h, _⟩ | ⟨h, _⟩
      · omega
      · exact h2 h
    exact (hoth b hb h1 hbg).trans (hy.kept.block b hb h1 h2)
  · obtain ⟨cw, hcw, htw⟩ := hy.kept.used g' cur' hb h'
    have hgl : g' < w.heap.size := (Array.getElem?_eq_some_iff.1 h').1
    by_cases hgg : g' = g
    · subst hgg
      rw [hcur] at hcw
      simp only [Option.some.injEq, Obj.cells.injEq] at hcw
      obtain ⟨rfl, _⟩ := hcw
      refine ⟨_, hg', ?_⟩
      rcases hy.fresh with ⟨h, _⟩ | ⟨_, rfl⟩
      · omega
      · rw [hput]; exact htw
    · have hgR' : g' ≠ R := by
        rintro rfl
        have hb1 := hy.box
        rw [hcw] at hb1
        simp only [Option.some.injEq, Obj.cells.injEq] at hb1
        exact absurd hb1.2.1 (by decide)
      exact ⟨cw, (hoth g' hgl hgR' hgg).trans hcw, htw⟩
  · rcases hy.fresh with ⟨h, _⟩ | ⟨h, rfl⟩
    · exact .inl (by omega)
    · exact .inr ⟨h, by omega⟩
end Go.Proofs.Qxb6600577a
