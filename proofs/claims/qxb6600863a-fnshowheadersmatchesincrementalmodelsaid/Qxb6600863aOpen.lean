import Derived.Test.Qxb6600863aRows
import Derived.Test.Qxb6600863aBase
namespace Go.Proofs.Qxb6600863a
open Go.ChangeShapes Go.WideShapes Go.ChangeAt Go.RowKit

/-- A []string that came in, opened. -/
theorem open_in {H : Type} {enc : TypeId × Value → H} {W : World} {a : Option Addr} {len cap : Nat} {d : DataW H} {p : List MemPlace}
    (h : DataW.Trod enc Try.prog W 0 (fun _ => true) true 22 (.slice a len cap) d p) : ∃ ss, Strs W a len ss ∧ Short ss := by
  obtain ⟨fuel, hf⟩ := h
  rcases open_strings Try.underlying22 Try.underlying9 Try.cells9 hf with ⟨hcs, _⟩ | ⟨x, l, c, ss, hcs, _, hl, hm, hz, _, hcell, hsz⟩
  · simp [Value.cells] at hcs
    obtain ⟨rfl, rfl, rfl⟩ := hcs
    exact ⟨[], ⟨rfl, by omega, fun h => absurd h (by omega)⟩, fun s hs => by cases hs⟩
  · simp [Value.cells] at hcs
    obtain ⟨rfl, rfl, rfl⟩ := hcs
    simp only [if_true] at hz
    unfold maxLen at hm hsz
    refine ⟨ss.take len, ⟨by simp; omega, by omega, fun h0 => ?_⟩, fun s hs => by simpa using hsz s (List.mem_of_mem_take hs)⟩
    obtain ⟨b, off, spot⟩ := x
    have hspot : spot = none := by simpa [Addr.add] using World.cell?_spot (hcell 0 (by omega))
    subst hspot
    refine ⟨b, off, rfl, ?_, fun i hi => ?_⟩
    · have := hcell 0 (by omega)
      simpa [Addr.add] using World.block_lt_of_cell? W _ this
    · have := hcell i (by omega)
      rw [Addr.add_lit] at this
      rw [this]
      simp [List.getD, hi]
end Go.Proofs.Qxb6600863a
