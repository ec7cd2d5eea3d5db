/-
  No cell of these rows narrows 'for every input' (looked for: loops, veiled, ifaces, maps, wideKeys, modest, calm, conditions, laid).
  DERIVED. THE GIVEN ROWS OF THIS SEAT. 7 by the template 'for every input the law returns true; each argument reads behind the call as it read before'; 0 by the template 'total and deterministic' (their statements: Qxb6600577aTotals.lean).
  GIVEN WITH THE SEED: the statements are not yours to turn. If you find one false, say at which input.
  Laid BY PROGRAM, IN A SANDBOX (cutbox-rows.mjs): the forced cells as the released guide's own fill.sh prints them over the translation 2ef9c4044c24b89b… (all of the seat's roots in one cut). By AI agents, Wed Nov 11 2026. No macro, syntax, notation, axiom, sorry.
-/
import Derived.Test.Qxb6600577aChecked
import GoSem.Claim
import GoSem.ClaimJoined
import GoSem.ClaimMapViews
import Derived.JoinedTies
import Derived.KernelRfl
namespace Go.Proofs.Qxb6600577a
/- THE CELL 'sum', in the pinned program and in every row, IS THE sha256 OF THE DUMP (.gsa) THAT Qxb6600577aProg.lean LOADS. Nothing in Lean hashes anything: it is a label: what it is worth is what the hold of that sum in a sandbox is worth. -/
noncomputable def Try.pinned : Pinned := { name := "qxb6600577a", sum := "2ef9c4044c24b89bfb257750190f9aed94c29676b2423ebda00eade26362906b", checked := Try.checked }
namespace Rows
def none {H : Type} : Left H := { results := [], args := [] }

/-- 'zzlaws_internal_node_b1.FnAppendOnceIdempotent': WHATEVER THE INPUT: true; the input reads as it did. -/
def fnAppendOnceIdempotentSpec : ChangeSpec := { name := "fnAppendOnceIdempotent", fn := fun _ => fun
  | [d1, d2] => { results := [.lit (.bool true)], args := [d1, d2] }
  | _ => none }
def fnAppendOnceIdempotentRow : OpenClaim := { program := "qxb6600577a", sum := "2ef9c4044c24b89bfb257750190f9aed94c29676b2423ebda00eade26362906b", func := "example.com/holdfast/holdfast/zzlaws_internal_node_b1.FnAppendOnceIdempotent", spec := "fnAppendOnceIdempotent", apart := false }
def FnAppendOnceIdempotentSaid : Prop := fnAppendOnceIdempotentRow.holds Try.pinned (OpenSpec.ofChange fnAppendOnceIdempotentSpec)

/-- ITS FALSE NEIGHBOUR: 'it returns false'. Refute it at one input. -/
def fnAppendOnceIdempotentWrong : ChangeSpec := { name := "fnAppendOnceIdempotent", fn := fun _ => fun
  | [d1, d2] => { results := [.lit (.bool false)], args := [d1, d2] }
  | _ => none }
def FnAppendOnceIdempotentWrongFalsely : Prop := fnAppendOnceIdempotentRow.holds Try.pinned (OpenSpec.ofChange fnAppendOnceIdempotentWrong)

/-- 'zzlaws_internal_node_b1.FnAppendOnceScriptKeepsFirstSeenDistinct': WHATEVER THE INPUT: true; the input reads as it did. -/
def fnAppendOnceScriptKeepsFirstSeenDistinctSpec : ChangeSpec := { name := "fnAppendOnceScriptKeepsFirstSeenDistinct", fn := fun _ => fun
  | [d] => { results := [.lit (.bool true)], args := [d] }
  | _ => none }
def fnAppendOnceScriptKeepsFirstSeenDistinctRow : OpenClaim := { program := "qxb6600577a", sum := "2ef9c4044c24b89bfb257750190f9aed94c29676b2423ebda00eade26362906b", func := "example.com/holdfast/holdfast/zzlaws_internal_node_b1.FnAppendOnceScriptKeepsFirstSeenDistinct", spec := "fnAppendOnceScriptKeepsFirstSeenDistinct", apart := false }
def FnAppendOnceScriptKeepsFirstSeenDistinctSaid : Prop := fnAppendOnceScriptKeepsFirstSeenDistinctRow.holds Try.pinned (OpenSpec.ofChange fnAppendOnceScriptKeepsFirstSeenDistinctSpec)

/-- ITS FALSE NEIGHBOUR: 'it returns false'. Refute it at one input. -/
def fnAppendOnceScriptKeepsFirstSeenDistinctWrong : ChangeSpec := { name := "fnAppendOnceScriptKeepsFirstSeenDistinct", fn := fun _ => fun
  | [d] => { results := [.lit (.bool false)], args := [d] }
  | _ => none }
def FnAppendOnceScriptKeepsFirstSeenDistinctWrongFalsely : Prop := fnAppendOnceScriptKeepsFirstSeenDistinctRow.holds Try.pinned (OpenSpec.ofChange fnAppendOnceScriptKeepsFirstSeenDistinctWrong)

/-- 'zzlaws_internal_node_b1.FnWithoutAddrIsExactFilter': WHATEVER THE INPUT: true; the input reads as it did. -/
def fnWithoutAddrIsExactFilterSpec : ChangeSpec := { name := "fnWithoutAddrIsExactFilter", fn := fun _ => fun
  | [d1, d2] => { results := [.lit (.bool true)], args := [d1, d2] }
  | _ => none }
def fnWithoutAddrIsExactFilterRow : OpenClaim := { program := "qxb6600577a", sum := "2ef9c4044c24b89bfb257750190f9aed94c29676b2423ebda00eade26362906b", func := "example.com/holdfast/holdfast/zzlaws_internal_node_b1.FnWithoutAddrIsExactFilter", spec := "fnWithoutAddrIsExactFilter", apart := false }
def FnWithoutAddrIsExactFilterSaid : Prop := fnWithoutAddrIsExactFilterRow.holds Try.pinned (OpenSpec.ofChange fnWithoutAddrIsExactFilterSpec)

/-- ITS FALSE NEIGHBOUR: 'it returns false'. Refute it at one input. -/
def fnWithoutAddrIsExactFilterWrong : ChangeSpec := { name := "fnWithoutAddrIsExactFilter", fn := fun _ => fun
  | [d1, d2] => { results := [.lit (.bool false)], args := [d1, d2] }
  | _ => none }
def FnWithoutAddrIsExactFilterWrongFalsely : Prop := fnWithoutAddrIsExactFilterRow.holds Try.pinned (OpenSpec.ofChange fnWithoutAddrIsExactFilterWrong)

/-- 'zzlaws_internal_node_b1.FnWithoutAddrUndoesAppendOnce': WHATEVER THE INPUT: true; the input reads as it did. -/
def fnWithoutAddrUndoesAppendOnceSpec : ChangeSpec := { name := "fnWithoutAddrUndoesAppendOnce", fn := fun _ => fun
  | [d1, d2] => { results := [.lit (.bool true)], args := [d1, d2] }
  | _ => none }
def fnWithoutAddrUndoesAppendOnceRow : OpenClaim := { program := "qxb6600577a", sum := "2ef9c4044c24b89bfb257750190f9aed94c29676b2423ebda00eade26362906b", func := "example.com/holdfast/holdfast/zzlaws_internal_node_b1.FnWithoutAddrUndoesAppendOnce", spec := "fnWithoutAddrUndoesAppendOnce", apart := false }
def FnWithoutAddrUndoesAppendOnceSaid : Prop := fnWithoutAddrUndoesAppendOnceRow.holds Try.pinned (OpenSpec.ofChange fnWithoutAddrUndoesAppendOnceSpec)

/-- ITS FALSE NEIGHBOUR: 'it returns false'. Refute it at one input. -/
def fnWithoutAddrUndoesAppendOnceWrong : ChangeSpec := { name := "fnWithoutAddrUndoesAppendOnce", fn := fun _ => fun
  | [d1, d2] => { results := [.lit (.bool false)], args := [d1, d2] }
  | _ => none }
def FnWithoutAddrUndoesAppendOnceWrongFalsely : Prop := fnWithoutAddrUndoesAppendOnceRow.holds Try.pinned (OpenSpec.ofChange fnWithoutAddrUndoesAppendOnceWrong)

/-- 'zzlaws_internal_node_b1.FnWithoutAddrOrderFreeAndIdempotent': WHATEVER THE INPUT: true; the input reads as it did. -/
def fnWithoutAddrOrderFreeAndIdempotentSpec : ChangeSpec := { name := "fnWithoutAddrOrderFreeAndIdempotent", fn := fun _ => fun
  | [d1, d2, d3] => { results := [.lit (.bool true)], args := [d1, d2, d3] }
  | _ => none }
def fnWithoutAddrOrderFreeAndIdempotentRow : OpenClaim := { program := "qxb6600577a", sum := "2ef9c4044c24b89bfb257750190f9aed94c29676b2423ebda00eade26362906b", func := "example.com/holdfast/holdfast/zzlaws_internal_node_b1.FnWithoutAddrOrderFreeAndIdempotent", spec := "fnWithoutAddrOrderFreeAndIdempotent", apart := false }
def FnWithoutAddrOrderFreeAndIdempotentSaid : Prop := fnWithoutAddrOrderFreeAndIdempotentRow.holds Try.pinned (OpenSpec.ofChange fnWithoutAddrOrderFreeAndIdempotentSpec)

/-- ITS FALSE NEIGHBOUR: 'it returns false'. Refute it at one input. -/
def fnWithoutAddrOrderFreeAndIdempotentWrong : ChangeSpec := { name := "fnWithoutAddrOrderFreeAndIdempotent", fn := fun _ => fun
  | [d1, d2, d3] => { results := [.lit (.bool false)], args := [d1, d2, d3] }
  | _ => none }
def FnWithoutAddrOrderFreeAndIdempotentWrongFalsely : Prop := fnWithoutAddrOrderFreeAndIdempotentRow.holds Try.pinned (OpenSpec.ofChange fnWithoutAddrOrderFreeAndIdempotentWrong)

/-- 'zzlaws_internal_node_b1.FnExtendAppendsAndKeepsEarlierRoutes': WHATEVER THE INPUT: true; the input reads as it did. -/
def fnExtendAppendsAndKeepsEarlierRoutesSpec : ChangeSpec := { name := "fnExtendAppendsAndKeepsEarlierRoutes", fn := fun _ => fun
  | [d1, d2, d3] => { results := [.lit (.bool true)], args := [d1, d2, d3] }
  | _ => none }
def fnExtendAppendsAndKeepsEarlierRoutesRow : OpenClaim := { program := "qxb6600577a", sum := "2ef9c4044c24b89bfb257750190f9aed94c29676b2423ebda00eade26362906b", func := "example.com/holdfast/holdfast/zzlaws_internal_node_b1.FnExtendAppendsAndKeepsEarlierRoutes", spec := "fnExtendAppendsAndKeepsEarlierRoutes", apart := false }
def FnExtendAppendsAndKeepsEarlierRoutesSaid : Prop := fnExtendAppendsAndKeepsEarlierRoutesRow.holds Try.pinned (OpenSpec.ofChange fnExtendAppendsAndKeepsEarlierRoutesSpec)

/-- ITS FALSE NEIGHBOUR: 'it returns false'. Refute it at one input. -/
def fnExtendAppendsAndKeepsEarlierRoutesWrong : ChangeSpec := { name := "fnExtendAppendsAndKeepsEarlierRoutes", fn := fun _ => fun
  | [d1, d2, d3] => { results := [.lit (.bool false)], args := [d1, d2, d3] }
  | _ => none }
def FnExtendAppendsAndKeepsEarlierRoutesWrongFalsely : Prop := fnExtendAppendsAndKeepsEarlierRoutesRow.holds Try.pinned (OpenSpec.ofChange fnExtendAppendsAndKeepsEarlierRoutesWrong)

/-- 'zzlaws_internal_node_b1.FnExtendRoutesNeverChange': WHATEVER THE INPUT: true; the input reads as it did. -/
def fnExtendRoutesNeverChangeSpec : ChangeSpec := { name := "fnExtendRoutesNeverChange", fn := fun _ => fun
  | [d1, d2] => { results := [.lit (.bool true)], args := [d1, d2] }
  | _ => none }
def fnExtendRoutesNeverChangeRow : OpenClaim := { program := "qxb6600577a", sum := "2ef9c4044c24b89bfb257750190f9aed94c29676b2423ebda00eade26362906b", func := "example.com/holdfast/holdfast/zzlaws_internal_node_b1.FnExtendRoutesNeverChange", spec := "fnExtendRoutesNeverChange", apart := false }
def FnExtendRoutesNeverChangeSaid : Prop := fnExtendRoutesNeverChangeRow.holds Try.pinned (OpenSpec.ofChange fnExtendRoutesNeverChangeSpec)

/-- ITS FALSE NEIGHBOUR: 'it returns false'. Refute it at one input. -/
def fnExtendRoutesNeverChangeWrong : ChangeSpec := { name := "fnExtendRoutesNeverChange", fn := fun _ => fun
  | [d1, d2] => { results := [.lit (.bool false)], args := [d1, d2] }
  | _ => none }
def FnExtendRoutesNeverChangeWrongFalsely : Prop := fnExtendRoutesNeverChangeRow.holds Try.pinned (OpenSpec.ofChange fnExtendRoutesNeverChangeWrong)

end Rows
end Go.Proofs.Qxb6600577a
