import Derived.Test.Qxb6600577aRows
import Derived.Test.Qxb6600577aIn
import Derived.Deep.Strs
namespace Go.Proofs.Qxb6600577a
open Go.ChangeShapes Go.WideShapes Go.ChangeAt Go.RowKit Go.Deep

theorem Try.cells36 : Try.prog.cellsOf 36 = 3 := by kernel_rfl
theorem Try.cells3 : Try.prog.cellsOf 3 = 1 := by kernel_rfl
theorem Try.cells9' : Try.prog.cellsOf 9 = 1 := by kernel_rfl

/-- A step's three cells, read. -/
theorem stp_of {H : Type} {enc : TypeId × Value → H} {W : World} {n : Nat} {cs : List Value} {x : DataW H × List MemPlace} (h : DataW.trod enc Try.prog W 0 (fun _ => true) true n 36 cs = some x) :
    ∃ s : Stp, cs = s.cells ∧ s.peer.size ≤ 9223372036854775807 ∧ x = (.agg [.lit (.string s.peer.data.toList), .lit (.int .i64 s.lev), .lit (.int .i64 s.lnk)], []) ∧ (Lit.int .i64 s.lev).wf = true ∧ (Lit.int .i64 s.lnk).wf = true := by
  obtain ⟨y0, y1, y2, m, hx, hl, h0, h1, h2⟩ := trod_struct3 Try.underlying36 h
  rw [Try.cells36] at hl
  match cs, hl with
  | [c0, c1, c2], _ =>
    obtain ⟨p, e0, rfl, hp⟩ := DataW.trod_string Try.underlying9 h0
    obtain ⟨l, e1, rfl, hl⟩ := DataW.trod_int Try.underlying3 h1
    obtain ⟨k, e2, rfl, hk⟩ := DataW.trod_int Try.underlying3 h2
    simp [Try.cells9', Try.cells3] at e0 e1 e2
    subst e0 e1 e2
    unfold maxLen at hp
    exact ⟨⟨p, l, k⟩, rfl, hp, by simpa using hx, hl, hk⟩

/-- A slice of steps that came in, opened. -/
theorem open_steps {H : Type} {enc : TypeId × Value → H} {W : World} {a : Option Addr} {len cap : Nat} {d : DataW H} {p : List MemPlace}
    (h : DataW.Trod enc Try.prog W 0 (fun _ => true) true 34 (.slice a len cap) d p) : ∃ ss, InSteps W a len ss ∧ ShortS ss := by
  obtain ⟨fuel, hf⟩ := h
  rcases open_slice Try.underlying34 hf with ⟨hcs, _⟩ | ⟨x, l, c, m, n, D, Pl, hcs, _, hl, hm, hmm, _, hx⟩
  · simp [Value.cells] at hcs
    obtain ⟨rfl, rfl, rfl⟩ := hcs
    exact ⟨[], ⟨rfl, by omega, fun h => absurd h (by omega)⟩, fun s hs => by cases hs⟩
  · simp [Value.cells] at hcs
    obtain ⟨rfl, rfl, rfl⟩ := hcs
    simp only [if_true] at hmm
    subst hmm
    unfold maxLen at hm
    rw [Try.cells36] at hx
    have each : ∀ i, i < len → ∃ s : Stp, (∀ j : Nat, j < 3 → W.cell? ((x.add (i * 3)).add j) = s.cells[j]?) ∧ s.peer.size ≤ 9223372036854775807 ∧ x.block < W.heap.size := fun i hi => by
      obtain ⟨cs', h1, h2⟩ := hx i (by omega)
      obtain ⟨s, rfl, hs, _⟩ := stp_of h2
      obtain ⟨_, hlen, hc⟩ := World.cells?_some h1
      refine ⟨s, fun j hj => hc j hj, hs, ?_⟩
      have := World.cells?_block h1 (by omega)
      unfold Addr.add at this
      split at this <;> exact this
    have : Inhabited Stp := ⟨⟨ByteArray.empty, 0, 0⟩⟩
    obtain ⟨S, hS⟩ := choose_lt each
    refine ⟨(List.range len).map S, ⟨by simp, by omega, fun h0 => ?_⟩, fun s hs => ?_⟩
    · obtain ⟨b, off, spot⟩ := x
      have h00 := (hS 0 h0).1 0 (by omega)
      have hspot : spot = none := by
        have : W.cell? (((⟨b, off, spot⟩ : Addr).add (0 * 3)).add 0) = some (.string (S 0).peer) := h00
        simpa [Addr.add] using World.cell?_spot this
      subst hspot
      refine ⟨b, off, rfl, (hS 0 h0).2.2, fun i s hs => ?_⟩
      obtain ⟨hi, rfl⟩ := List.getElem?_eq_some_iff.1 hs
      simp only [List.length_map, List.length_range] at hi
      simp only [List.getElem_map, List.getElem_range]
      have hc := (hS i hi).1
      simp only [Addr.add_lit] at hc
      exact ⟨by simpa [Stp.cells] using hc 0 (by omega), by simpa [Stp.cells] using hc 1 (by omega), by simpa [Stp.cells] using hc 2 (by omega)⟩
    · obtain ⟨i, hi, rfl⟩ := List.mem_map.1 hs
      exact (hS i (List.mem_range.1 hi)).2.1

/-- A slice of ints that came in, opened. -/
theorem open_nums {H : Type} {enc : TypeId × Value → H} {W : World} {a : Option Addr} {len cap : Nat} {d : DataW H} {p : List MemPlace}
    (h : DataW.Trod enc Try.prog W 0 (fun _ => true) true 50 (.slice a len cap) d p) : ∃ zs, InInts W a len zs := by
  obtain ⟨fuel, hf⟩ := h
  rcases open_ints Try.underlying50 Try.underlying3 Try.cells3 hf with ⟨hcs, _⟩ | ⟨x, l, c, zs, hcs, _, hl, hm, hz, _, hcell, hsz⟩
  · simp [Value.cells] at hcs
    obtain ⟨rfl, rfl, rfl⟩ := hcs
    exact ⟨[], ⟨rfl, by omega, fun h => absurd h (by omega)⟩⟩
  · simp [Value.cells] at hcs
    obtain ⟨rfl, rfl, rfl⟩ := hcs
    simp only [if_true] at hz
    unfold maxLen at hm
    refine ⟨zs.take len, ⟨by simp; omega, by omega, fun h0 => ?_⟩⟩
    obtain ⟨b, off, spot⟩ := x
    have hspot : spot = none := by simpa [Addr.add] using World.cell?_spot (hcell 0 (by omega))
    subst hspot
    refine ⟨b, off, rfl, ?_, fun i hi => ?_⟩
    · have := hcell 0 (by omega)
      simpa [Addr.add] using World.block_lt_of_cell? W _ this
    · have := hcell i (by omega)
      rw [Addr.add_lit] at this
      rw [this]
      simp [List.getD, hi]
end Go.Proofs.Qxb6600577a
