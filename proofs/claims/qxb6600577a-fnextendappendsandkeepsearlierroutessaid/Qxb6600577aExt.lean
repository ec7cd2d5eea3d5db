import Derived.Test.Qxb6600577aExtA
import Derived.Test.Qxb6600577aExtB
namespace Go.Proofs.Qxb6600577a
open Go.ChangeShapes Go.WideShapes Go.ChangeAt Go.RowKit

/-- 'extend'. -/
theorem extend33 (R sz u k c : Nat) (blk : Option Nat) (ao : Option Addr) (xs : List Stp) (p : ByteArray) (l n : Int) (w : World) (hr : RS w R blk sz u) (hh : Handed w R blk u ao k xs) (hk : k < 1048576) :
    Calls Try.prog 33 #[.pointer (some ⟨R, 0, none⟩), .slice ao k c, .agg #[.string p, .int .i64 l, .int .i64 n]] w fun e w' => ExtendEnd w R blk u k xs ⟨p, l, n⟩ e w' := by
  by_cases h : ∃ g off, 0 < k ∧ u < sz ∧ blk = some g ∧ ao = some ⟨g, off, none⟩ ∧ off + k * 3 = u * 3
  · obtain ⟨g, off, h1, h2, rfl, rfl, h3⟩ := h
    rcases hh with ⟨h0, _⟩ | ⟨_, b, off', he, hd⟩
    · omega
    · simp only [Option.some.injEq, Addr.mk.injEq, and_true] at he
      obtain ⟨rfl, rfl⟩ := he
      exact extendA R _ sz u _ k c xs p l n w hr hd h1 h2 h3
  · exact extendB R sz u k c blk ao xs p l n w hr hh hk h

theorem Kept.of_below {w w0 : World} {R : Nat} {blk : Option Nat} {sz u : Nat} (hr : RS w R blk sz u) (hb : Below w.heap.size w w0) : RS w0 R blk sz u :=
  ⟨(hb.block R (Array.getElem?_eq_some_iff.1 hr.box).1).trans hr.box, hr.bare, fun g hg => by
    obtain ⟨h1, h2, h3, cur, h4, h5⟩ := hr.row g hg
    exact ⟨h1, h2, h3, cur, (hb.block g (Array.getElem?_eq_some_iff.1 h4).1).trans h4, h5⟩, hr.small⟩

theorem Held.later {w w0 : World} {R : Nat} {blk : Option Nat} {u b off k : Nat} {xs : List Stp} (h : Held w R blk u b off k xs) (hb : Below w.heap.size w w0) : Held w0 R blk u b off k xs := by
  obtain ⟨cur, t, h1, h2⟩ := h.row
  exact ⟨h.len, h.ne, h.within, cur, t, (hb.block b h.lt).trans h1, h2⟩

theorem Handed.later {w w0 : World} {R : Nat} {blk : Option Nat} {u k : Nat} {ao : Option Addr} {xs : List Stp} (h : Handed w R blk u ao k xs) (hb : Below w.heap.size w w0) : Handed w0 R blk u ao k xs := by
  rcases h with h | ⟨h1, b, off, h2, h3⟩
  · exact .inl h
  · exact .inr ⟨h1, b, off, h2, h3.later hb⟩

theorem ExtendEnd.of_later {w w0 w' : World} {R : Nat} {blk : Option Nat} {u k : Nat} {xs : List Stp} {s : Stp} {e : Ending} (hb : Below w.heap.size w w0) (h : ExtendEnd w0 R blk u k xs s e w') : ExtendEnd w R blk u k xs s e w' := by
  obtain ⟨g, off, sz', u', h1, h2, h3, h4, h5⟩ := h
  have hs := hb.size
  refine ⟨g, off, sz', u', h1, h2, h3, ⟨h4.os.trans hb.os, h4.tape.trans hb.tape, h4.output.trans hb.output, by have := h4.size; omega, fun b hlt hR hn => (h4.block b (by omega) hR hn).trans (hb.block b hlt), fun g' cur hg hc => ?_⟩, ?_⟩
  · exact h4.used g' cur hg ((hb.block g' (Array.getElem?_eq_some_iff.1 hc).1).trans hc)
  · rcases h5 with h5 | h5
    · exact .inl (by omega)
    · exact .inr h5

set_option maxHeartbeats 400000 in
/-- 'ZZB1Extend'. -/
theorem extend25 (R sz u k c : Nat) (blk : Option Nat) (ao : Option Addr) (xs : List Stp) (p : ByteArray) (l n : Int) (w : World) (hr : RS w R blk sz u) (hh : Handed w R blk u ao k xs) (hk : k < 1048576) :
    Calls Try.prog 25 #[.pointer (some ⟨R, 0, none⟩), .slice ao k c, .agg #[.string p, .int .i64 l, .int .i64 n]] w fun e w' => ExtendEnd w R blk u k xs ⟨p, l, n⟩ e w' := by
  have hb : ∀ o, Below w.heap.size w (w.alloc o) := fun o => (Below.refl _ _).alloc (Nat.le_refl _) o
  go_enter Try.func25, Try.ntmps25
  go_wp2_with fail
  refine (extend33 R sz u k c blk ao xs p l n _ (Kept.of_below hr (hb _)) (hh.later (hb _)) hk).mono ?_
  intro e w' h
  have h' := h.of_later (hb _)
  obtain ⟨g, off, sz', u', rfl, h2⟩ := h'
  go_wp2
  go_ret
  exact ⟨g, off, sz', u', rfl, h2⟩
end Go.Proofs.Qxb6600577a
