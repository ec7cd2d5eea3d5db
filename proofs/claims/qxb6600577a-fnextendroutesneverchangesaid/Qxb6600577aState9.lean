import Derived.Test.Qxb6600577aExt
import Derived.Test.Qxb6600577aPrefix
import Derived.Test.Qxb6600577aChain
namespace Go.Proofs.Qxb6600577a
open Go.RowKit
open Plain (par num chain before)

def noStp : Stp := ⟨ByteArray.empty, 0, 0⟩
/-- The route of op i. -/
def rt (zs : List Int) (ss : List Stp) (i : Nat) : List Stp := chain zs noStp ss i
/-- The route that an op extends. -/
def bf (zs : List Int) (ss : List Stp) (r : Option Nat) : List Stp := before zs noStp ss r

/-- The world in the middle of the script: the Routes at R; the list of routes at Q, of which the first k are handed out. -/
structure State9 (w : World) (R Q n : Nat) (zs : List Int) (ss : List Stp) (k : Nat) (wr : World) (V : List Value) (blk : Option Nat) (sz u : Nat) : Prop where
  rs : RS wr R blk sz u
  own : wr.ownsRow w.heap.size 39 1 (.slice (some ⟨Q, 0, none⟩) n n) n V
  routes : ∀ i, i < k → ∃ b off, V[i]? = some (.slice (some ⟨b, off, none⟩) (rt zs ss i).length (rt zs ss i).length) ∧ Held wr R blk u b off (rt zs ss i).length (rt zs ss i) ∧ b ≠ Q
  blk : ∀ g, blk = some g → w.heap.size ≤ g
  bel : Below w.heap.size w wr
  hR : w.heap.size ≤ R
  RQ : R ≠ Q

theorem State9.qrow {w : World} {R Q n : Nat} {zs : List Int} {ss : List Stp} {k : Nat} {wr : World} {V : List Value} {blk : Option Nat} {sz u : Nat} (h : State9 w R Q n zs ss k wr V blk sz u) :
    ∃ cur, wr.heap[Q]? = some (.cells cur 39 (0, 0)) ∧ w.heap.size ≤ Q := by
  rcases h.own.2 with ⟨h', _⟩ | ⟨g', cap', cur, h', hb, hg, _⟩
  · simp at h'
  · simp only [Value.slice.injEq, Option.some.injEq, Addr.mk.injEq, and_true, true_and] at h'
    obtain ⟨rfl, rfl⟩ := h'
    exact ⟨cur, hg, hb⟩

theorem ownsRow_of_block {w w' : World} {base : Nat} {e : TypeId} {size g n cap : Nat} {xs : List Value} (h : w.ownsRow base e size (.slice (some ⟨g, 0, none⟩) n cap) n xs) (hb : w'.heap[g]? = w.heap[g]?) :
    w'.ownsRow base e size (.slice (some ⟨g, 0, none⟩) n cap) n xs := by
  refine ⟨h.1, ?_⟩
  rcases h.2 with ⟨h', _⟩ | ⟨g', cap', cur, h', hbb, hg, r⟩
  · simp at h'
  · simp only [Value.slice.injEq, Option.some.injEq, Addr.mk.injEq, and_true, true_and] at h'
    obtain ⟨rfl, rfl⟩ := h'
    exact .inr ⟨g, cap, cur, rfl, hbb, hb.trans hg, r⟩

/-- At the start. -/
theorem State9.start {w wm : World} {n : Nat} {zs : List Int} {ss : List Stp} {V : List Value} (hown : wm.ownsRow w.heap.size 39 1 (.slice (some ⟨w.heap.size, 0, none⟩) n n) n V) (hg : w.grownBy wm none) (hgt : w.heap.size < wm.heap.size) :
    State9 w wm.heap.size w.heap.size n zs ss 0 (wm.alloc (.cells #[.slice none 0 0, .int .i64 0] 42)) V none 0 0 := by
  have hb : Below w.heap.size w wm := (Below.refl _ _).grown hg (Nat.le_refl _) (fun k hk => by cases hk)
  exact ⟨⟨heap_alloc_new wm _, fun _ => ⟨rfl, rfl⟩, fun g h => (by cases h), by omega⟩, hown.alloc _, fun i hi => absurd hi (by omega), fun g h => (by cases h), hb.alloc (by omega) _, by omega, by omega⟩

/-- A round: a new world above, then an extend, then the store into the list. -/
theorem State9.next {w : World} {R Q n : Nat} {zs : List Int} {ss : List Stp} {k : Nat} {wr : World} {V : List Value} {blk : Option Nat} {sz u : Nat} (h : State9 w R Q n zs ss k wr V blk sz u) (hk : k < n)
    {w1 w2 : World} (hb1 : Below wr.heap.size wr w1) {g off sz' u' : Nat} (s : Stp) (hrt : rt zs ss k = bf zs ss (par zs k) ++ [s])
    (hr2 : RS w2 R (some g) sz' u') (hh2 : Held w2 R (some g) u' g off ((bf zs ss (par zs k)).length + 1) (bf zs ss (par zs k) ++ [s])) (hk2 : Kept w1 w2 R blk u) (hg2 : w1.heap.size ≤ g ∨ (blk = some g ∧ u ≤ u')) :
    State9 w R Q n zs ss (k + 1) (w2.setCell ⟨Q, k, none⟩ (.slice (some ⟨g, off, none⟩) ((bf zs ss (par zs k)).length + 1) ((bf zs ss (par zs k)).length + 1)))
      (V.set k (.slice (some ⟨g, off, none⟩) ((bf zs ss (par zs k)).length + 1) ((bf zs ss (par zs k)).length + 1))) (some g) sz' u' := by
  have hVl : V.length = n := by have := h.own.1; omega
  obtain ⟨cq, hq, hQ⟩ := h.qrow
  have hql : Q < wr.heap.size := (Array.getElem?_eq_some_iff.1 hq).1
  have hs1 := hb1.size
  have hsw := h.bel.size
  have hq1 : w1.heap[Q]? = wr.heap[Q]? := hb1.block Q hql
  have hr1 : RS w1 R blk sz u := Kept.of_below h.rs hb1
  have hbq : blk ≠ some Q := fun e => by
    obtain ⟨_, _, _, cur, hc, _⟩ := h.rs.row Q e
    rw [hq] at hc
    simp only [Option.some.injEq, Obj.cells.injEq] at hc
    exact absurd hc.2.1 (by decide)
  have hq2 : w2.heap[Q]? = w1.heap[Q]? := hk2.block Q (by omega) (Ne.symm h.RQ) hbq
  have hgQ : g ≠ Q := fun e => by
    obtain ⟨_, _, _, cur, hc, _⟩ := hr2.row g rfl
    rw [e, hq2, hq1, hq] at hc
    simp only [Option.some.injEq, Obj.cells.injEq] at hc
    exact absurd hc.2.1 (by decide)
  have hlen : (rt zs ss k).length = (bf zs ss (par zs k)).length + 1 := by rw [hrt]; simp
  have hoth : ∀ (v : Value) b, b ≠ Q → (w2.setCell ⟨Q, k, none⟩ v).heap[b]? = w2.heap[b]? := fun v b hb => heap_setCell_other w2 ⟨Q, k, none⟩ b v hb
  have held3 : ∀ (v : Value) {b off' k' : Nat} {xs : List Stp}, Held w2 R (some g) u' b off' k' xs → b ≠ Q → Held (w2.setCell ⟨Q, k, none⟩ v) R (some g) u' b off' k' xs := fun v b off' k' xs hd hb => by
    obtain ⟨cur, t, h1, h2⟩ := hd.row
    exact ⟨hd.len, hd.ne, hd.within, cur, t, (hoth v b hb).trans h1, h2⟩
  have hown2 : w2.ownsRow w.heap.size 39 1 (.slice (some ⟨Q, 0, none⟩) n n) n V := ownsRow_of_block h.own (hq2.trans hq1)
  have hb2 : Below w.heap.size w w2 := (h.bel.trans (hb1.mono hsw)).trans (hk2.below (by omega) h.hR h.blk)
  refine ⟨⟨(hoth _ R h.RQ).trans hr2.box, hr2.bare, fun g' hg' => ?_, hr2.small⟩, (hown2.stored k _).1, fun i hi => ?_, fun g' hg' => ?_, hb2.setCell (p := ⟨Q, k, none⟩) hQ _, h.hR, h.RQ⟩
  · obtain ⟨a1, a2, a3, cur, a4, a5⟩ := hr2.row g' hg'
    cases hg'
    exact ⟨a1, a2, a3, cur, (hoth _ g hgQ).trans a4, a5⟩
  · by_cases hik : i = k
    · subst hik
      refine ⟨g, off, ?_, ?_, hgQ⟩
      · rw [hlen, List.getElem?_set_self (by omega)]
      · rw [hlen, hrt]; exact held3 _ hh2 hgQ
    · obtain ⟨b, off', hv, hd, hbQ⟩ := h.routes i (by omega)
      refine ⟨b, off', by rw [List.getElem?_set_ne (by omega)]; exact hv, held3 _ ((hd.later hb1).step hr1 hk2 hg2) hbQ, hbQ⟩
  · cases hg'
    rcases hg2 with hg2 | ⟨hg2, _⟩
    · omega
    · exact h.blk g hg2

/-- The route that op k extends, as it is handed over. -/
theorem State9.handed {w : World} {R Q n : Nat} {zs : List Int} {ss : List Stp} {k : Nat} {wr : World} {V : List Value} {blk : Option Nat} {sz u : Nat} (h : State9 w R Q n zs ss k wr V blk sz u) {p : Nat} (hp : par zs k = some p) :
    ∃ b off, V[p]? = some (.slice (some ⟨b, off, none⟩) (bf zs ss (par zs k)).length (bf zs ss (par zs k)).length) ∧ Handed wr R blk u (some ⟨b, off, none⟩) (bf zs ss (par zs k)).length (bf zs ss (par zs k)) := by
  have hpk := Plain.par_lt hp
  obtain ⟨b, off, hv, hd, _⟩ := h.routes p hpk
  rw [hp]
  exact ⟨b, off, hv, .inr ⟨(Plain.chain_len zs noStp ss (p + 1) p (by omega)).2, b, off, rfl, hd⟩⟩
end Go.Proofs.Qxb6600577a
