import Derived.Test.Qxb6600577aSteps
import Derived.Laws.IdiomCopy
import Derived.LaidEqlPtr
namespace Go.Proofs.Qxb6600577a
open Go.RowKit

/-- 'copy(dst, src)', elements of whatever size, dst in a row that is known whole: what goes over. -/
theorem run_copy_cells {P : Program} (w : World) (dT sT ty elem : TypeId) (i : TypeInfo) (hu : P.underlying dT = some (.slice elem)) (hi : P.info? elem = some i)
    (g o dLen dCap : Nat) (sp : Option Addr) (sLen sCap : Nat) (cur : Array Value) (t : TypeId) (cs : List Value) (hg : w.heap[g]? = some (.cells cur t (0, 0)))
    (hn : cs.length = Nat.min sLen dLen * i.size) (hsrc : 0 < Nat.min sLen dLen → ∃ ad, sp = some ad ∧ ∀ j v, cs[j]? = some v → w.cell? (ad.add j) = some v)
    (hfit : o + cs.length ≤ cur.size) (h1 : ∀ v ∈ cs, v.oneCell' = true) :
    (Builtin.copy_ #[dT, sT] ty #[.slice (some ⟨g, o, none⟩) dLen dCap, .slice sp sLen sCap]).run P w =
      .ok (goInt (Nat.min sLen dLen)) (w.setRow g (cur.toList.take o ++ cs ++ cur.toList.drop (o + cs.length)).toArray) := by
  have hst := run_storeCells_at P g o t cs 0 cur w hg (by simpa using hfit) h1
  simp only [Nat.add_zero] at hst
  by_cases h0 : Nat.min sLen dLen = 0
  · have hcs : cs = [] := List.eq_nil_of_length_eq_zero (by rw [hn, h0]; simp)
    subst hcs
    have hl : ∀ (x : Addr), (loadCells x 0).run P w = .ok #[] w := fun x => by simpa using run_loadCells_list (P := P) w x [] (by simp)
    cases sp <;> simp [Builtin.copy_, run_underlying hu, Builtin.lenOf, Builtin.firstCells, sizeOf, typeInfo, hi, h0, storeCells, hl, setRow_self w g cur t (0, 0) hg]
  · obtain ⟨ad, rfl, hc⟩ := hsrc (by omega)
    have hf := run_firstCells_some (P := P) w i.size (Nat.min sLen dLen) ad sLen sCap cs hn hc
    simp [Builtin.copy_, run_underlying hu, Builtin.lenOf, sizeOf, typeInfo, hi, hf, hst]

/-- The same as a law for the walk. -/
theorem wpList_copy_cells {P : Program} {w : World} {ops : Array Oper} {rest : List Oper} {o : Oper} {a : Act} {Q : Exit → Act → World → Prop} (hgd : o.guard = none) (d s : Operand) (dT sT : TypeId)
    (ho : o.op = .call { callee := .builtin .copy, args := #[d, s], argTypes := #[dT, sT] }) (elem : TypeId) (i : TypeInfo) (hu : P.underlying dT = some (.slice elem)) (hi : P.info? elem = some i)
    (g off dLen dCap : Nat) (sp : Option Addr) (sLen sCap : Nat) (hd : a.eval d = .slice (some ⟨g, off, none⟩) dLen dCap) (hs : a.eval s = .slice sp sLen sCap)
    (cur : Array Value) (t : TypeId) (hg : w.heap[g]? = some (.cells cur t (0, 0))) (cs : List Value) (hn : cs.length = Nat.min sLen dLen * i.size)
    (hsrc : 0 < Nat.min sLen dLen → ∃ ad, sp = some ad ∧ ∀ j v, cs[j]? = some v → w.cell? (ad.add j) = some v) (hfit : off + cs.length ≤ cur.size) (h1 : ∀ v ∈ cs, v.oneCell' = true)
    (h : ∀ w', w.grownBy w' (some g) → w'.heap[g]? = some (.cells (cur.toList.take off ++ cs ++ cur.toList.drop (off + cs.length)).toArray t (0, 0)) → wpList P ops Q rest (a.put o.dst (goInt (Nat.min sLen dLen))) w') :
    wpList P ops Q (o :: rest) a w := by
  refine wpList_plain hgd fun K hK => ?_
  have hrun := run_copy_cells (P := P) w dT sT o.type elem i hu hi g off dLen dCap sp sLen sCap cur t cs hg hn hsrc hfit h1
  unfold Oper.wp
  simp [execOp, ho, resolve, invoke, builtin, hd, hs, hrun, Result.andThen]
  refine hK _ _ (h _ ⟨rfl, rfl, rfl, by simp, fun k _ hk => setRow_other w g k _ (fun e => hk (by simp [e]))⟩ ?_)
  simpa using setRow_heap w g cur _ t _ hg
end Go.Proofs.Qxb6600577a
