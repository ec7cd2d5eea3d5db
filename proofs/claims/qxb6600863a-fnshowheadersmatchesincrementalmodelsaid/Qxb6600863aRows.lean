/-
  No cell of these rows narrows 'for every input' (looked for: loops, veiled, ifaces, maps, wideKeys, modest, calm, conditions, laid).
  DERIVED. THE GIVEN ROWS OF THIS SEAT. 2 by the template 'for every input the law returns true; each argument reads behind the call as it read before'; 0 by the template 'total and deterministic' (their statements: Qxb6600863aTotals.lean).
  GIVEN WITH THE SEED: the statements are not yours to turn. If you find one false, say at which input.
  Laid BY PROGRAM, IN A SANDBOX (cutbox-rows.mjs): the forced cells as the released guide's own fill.sh prints them over the translation 2a15a55e29b13137… (all of the seat's roots in one cut). By AI agents, Wed Nov 11 2026. No macro, syntax, notation, axiom, sorry.
-/
import Derived.Test.Qxb6600863aChecked
import GoSem.Claim
import GoSem.ClaimJoined
import GoSem.ClaimMapViews
import Derived.JoinedTies
import Derived.KernelRfl
namespace Go.Proofs.Qxb6600863a
/- THE CELL 'sum', in the pinned program and in every row, IS THE sha256 OF THE DUMP (.gsa) THAT Qxb6600863aProg.lean LOADS. Nothing in Lean hashes anything: it is a label: what it is worth is what the hold of that sum in a sandbox is worth. -/
noncomputable def Try.pinned : Pinned := { name := "qxb6600863a", sum := "2a15a55e29b131377faa78d958baff9af5dcbfd27eafe6725c0b54cc414702e7", checked := Try.checked }
namespace Rows
def none {H : Type} : Left H := { results := [], args := [] }

/-- 'zzlaws_internal_input_b1.FnShowHeadersMatchesIncrementalModel': WHATEVER THE INPUT: true; the input reads as it did. -/
def fnShowHeadersMatchesIncrementalModelSpec : ChangeSpec := { name := "fnShowHeadersMatchesIncrementalModel", fn := fun _ => fun
  | [d1, d2] => { results := [.lit (.bool true)], args := [d1, d2] }
  | _ => none }
def fnShowHeadersMatchesIncrementalModelRow : OpenClaim := { program := "qxb6600863a", sum := "2a15a55e29b131377faa78d958baff9af5dcbfd27eafe6725c0b54cc414702e7", func := "example.com/vestwright/vestwright/zzlaws_internal_input_b1.FnShowHeadersMatchesIncrementalModel", spec := "fnShowHeadersMatchesIncrementalModel", inPlace := ["internal/abi.NoEscape", "internal/bytealg.MakeNoZero"], apart := false }
def FnShowHeadersMatchesIncrementalModelSaid : Prop := fnShowHeadersMatchesIncrementalModelRow.holds Try.pinned (OpenSpec.ofChange fnShowHeadersMatchesIncrementalModelSpec)

/-- ITS FALSE NEIGHBOUR: 'it returns false'. Refute it at one input. -/
def fnShowHeadersMatchesIncrementalModelWrong : ChangeSpec := { name := "fnShowHeadersMatchesIncrementalModel", fn := fun _ => fun
  | [d1, d2] => { results := [.lit (.bool false)], args := [d1, d2] }
  | _ => none }
def FnShowHeadersMatchesIncrementalModelWrongFalsely : Prop := fnShowHeadersMatchesIncrementalModelRow.holds Try.pinned (OpenSpec.ofChange fnShowHeadersMatchesIncrementalModelWrong)

/-- 'zzlaws_internal_input_b1.FnShowHeadersPeelsFirstOptional': WHATEVER THE INPUT: true; the input reads as it did. -/
def fnShowHeadersPeelsFirstOptionalSpec : ChangeSpec := { name := "fnShowHeadersPeelsFirstOptional", fn := fun _ => fun
  | [d1, d2] => { results := [.lit (.bool true)], args := [d1, d2] }
  | _ => none }
def fnShowHeadersPeelsFirstOptionalRow : OpenClaim := { program := "qxb6600863a", sum := "2a15a55e29b131377faa78d958baff9af5dcbfd27eafe6725c0b54cc414702e7", func := "example.com/vestwright/vestwright/zzlaws_internal_input_b1.FnShowHeadersPeelsFirstOptional", spec := "fnShowHeadersPeelsFirstOptional", inPlace := ["internal/abi.NoEscape", "internal/bytealg.MakeNoZero"], apart := false }
def FnShowHeadersPeelsFirstOptionalSaid : Prop := fnShowHeadersPeelsFirstOptionalRow.holds Try.pinned (OpenSpec.ofChange fnShowHeadersPeelsFirstOptionalSpec)

/-- ITS FALSE NEIGHBOUR: 'it returns false'. Refute it at one input. -/
def fnShowHeadersPeelsFirstOptionalWrong : ChangeSpec := { name := "fnShowHeadersPeelsFirstOptional", fn := fun _ => fun
  | [d1, d2] => { results := [.lit (.bool false)], args := [d1, d2] }
  | _ => none }
def FnShowHeadersPeelsFirstOptionalWrongFalsely : Prop := fnShowHeadersPeelsFirstOptionalRow.holds Try.pinned (OpenSpec.ofChange fnShowHeadersPeelsFirstOptionalWrong)

end Rows
end Go.Proofs.Qxb6600863a
