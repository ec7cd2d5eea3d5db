/-
  No cell of these rows narrows 'for every input' (looked for: loops, veiled, ifaces, maps, wideKeys, modest, calm, conditions, laid).
  DERIVED. THE GIVEN ROWS OF THIS SEAT. 3 by the template 'for every input the law returns true; each argument reads behind the call as it read before'; 0 by the template 'total and deterministic' (their statements: Qxb6604303aTotals.lean).
  GIVEN WITH THE SEED: the statements are not yours to turn. If you find one false, say at which input.
  Laid BY PROGRAM, IN A SANDBOX (cutbox-rows.mjs): the forced cells as the released guide's own fill.sh prints them over the translation 10feaf23a5832261… (all of the seat's roots in one cut). By AI agents, Wed Nov 11 2026. No macro, syntax, notation, axiom, sorry.
-/
import Derived.Test.Qxb6604303aChecked
import GoSem.Claim
import GoSem.ClaimJoined
import GoSem.ClaimMapViews
import Derived.JoinedTies
import Derived.KernelRfl
namespace Go.Proofs.Qxb6604303a
/- THE CELL 'sum', in the pinned program and in every row, IS THE sha256 OF THE DUMP (.gsa) THAT Qxb6604303aProg.lean LOADS. Nothing in Lean hashes anything: it is a label: what it is worth is what the hold of that sum in a sandbox is worth. -/
noncomputable def Try.pinned : Pinned := { name := "qxb6604303a", sum := "10feaf23a58322612b664a2e3813ab93e6c937a5c8251b69559efbe04c777aa4", checked := Try.checked }
namespace Rows
def none {H : Type} : Left H := { results := [], args := [] }

/-- 'zzlaws_pkg_greylist_b1.FnLastLabelsMatchesDotModel': WHATEVER THE INPUT: true; the input reads as it did. -/
def fnLastLabelsMatchesDotModelSpec : ChangeSpec := { name := "fnLastLabelsMatchesDotModel", fn := fun _ => fun
  | [d1, d2] => { results := [.lit (.bool true)], args := [d1, d2] }
  | _ => none }
def fnLastLabelsMatchesDotModelRow : OpenClaim := { program := "qxb6604303a", sum := "10feaf23a58322612b664a2e3813ab93e6c937a5c8251b69559efbe04c777aa4", func := "example.com/slategate/slategate/zzlaws_pkg_greylist_b1.FnLastLabelsMatchesDotModel", spec := "fnLastLabelsMatchesDotModel", apart := false }
def FnLastLabelsMatchesDotModelSaid : Prop := fnLastLabelsMatchesDotModelRow.holds Try.pinned (OpenSpec.ofChange fnLastLabelsMatchesDotModelSpec)

/-- ITS FALSE NEIGHBOUR: 'it returns false'. Refute it at one input. -/
def fnLastLabelsMatchesDotModelWrong : ChangeSpec := { name := "fnLastLabelsMatchesDotModel", fn := fun _ => fun
  | [d1, d2] => { results := [.lit (.bool false)], args := [d1, d2] }
  | _ => none }
def FnLastLabelsMatchesDotModelWrongFalsely : Prop := fnLastLabelsMatchesDotModelRow.holds Try.pinned (OpenSpec.ofChange fnLastLabelsMatchesDotModelWrong)

/-- 'zzlaws_pkg_greylist_b1.FnCoveringDomainsAreShortDotSuffixes': WHATEVER THE INPUT: true; the input reads as it did. -/
def fnCoveringDomainsAreShortDotSuffixesSpec : ChangeSpec := { name := "fnCoveringDomainsAreShortDotSuffixes", fn := fun _ => fun
  | [d] => { results := [.lit (.bool true)], args := [d] }
  | _ => none }
def fnCoveringDomainsAreShortDotSuffixesRow : OpenClaim := { program := "qxb6604303a", sum := "10feaf23a58322612b664a2e3813ab93e6c937a5c8251b69559efbe04c777aa4", func := "example.com/slategate/slategate/zzlaws_pkg_greylist_b1.FnCoveringDomainsAreShortDotSuffixes", spec := "fnCoveringDomainsAreShortDotSuffixes", inPlace := ["internal/bytealg.IndexByteString", "internal/bytealg.IndexString"], named := ["internal/bytealg.MaxLen"], apart := false }
def FnCoveringDomainsAreShortDotSuffixesSaid : Prop := fnCoveringDomainsAreShortDotSuffixesRow.holds Try.pinned (OpenSpec.ofChange fnCoveringDomainsAreShortDotSuffixesSpec)

/-- ITS FALSE NEIGHBOUR: 'it returns false'. Refute it at one input. -/
def fnCoveringDomainsAreShortDotSuffixesWrong : ChangeSpec := { name := "fnCoveringDomainsAreShortDotSuffixes", fn := fun _ => fun
  | [d] => { results := [.lit (.bool false)], args := [d] }
  | _ => none }
def FnCoveringDomainsAreShortDotSuffixesWrongFalsely : Prop := fnCoveringDomainsAreShortDotSuffixesRow.holds Try.pinned (OpenSpec.ofChange fnCoveringDomainsAreShortDotSuffixesWrong)

/-- 'zzlaws_pkg_greylist_b1.FnCoveringDomainsAgreeWithLastLabels': WHATEVER THE INPUT: true; the input reads as it did. -/
def fnCoveringDomainsAgreeWithLastLabelsSpec : ChangeSpec := { name := "fnCoveringDomainsAgreeWithLastLabels", fn := fun _ => fun
  | [d] => { results := [.lit (.bool true)], args := [d] }
  | _ => none }
def fnCoveringDomainsAgreeWithLastLabelsRow : OpenClaim := { program := "qxb6604303a", sum := "10feaf23a58322612b664a2e3813ab93e6c937a5c8251b69559efbe04c777aa4", func := "example.com/slategate/slategate/zzlaws_pkg_greylist_b1.FnCoveringDomainsAgreeWithLastLabels", spec := "fnCoveringDomainsAgreeWithLastLabels", inPlace := ["internal/bytealg.IndexByteString", "internal/bytealg.IndexString"], named := ["internal/bytealg.MaxLen"], apart := false }
def FnCoveringDomainsAgreeWithLastLabelsSaid : Prop := fnCoveringDomainsAgreeWithLastLabelsRow.holds Try.pinned (OpenSpec.ofChange fnCoveringDomainsAgreeWithLastLabelsSpec)

/-- ITS FALSE NEIGHBOUR: 'it returns false'. Refute it at one input. -/
def fnCoveringDomainsAgreeWithLastLabelsWrong : ChangeSpec := { name := "fnCoveringDomainsAgreeWithLastLabels", fn := fun _ => fun
  | [d] => { results := [.lit (.bool false)], args := [d] }
  | _ => none }
def FnCoveringDomainsAgreeWithLastLabelsWrongFalsely : Prop := fnCoveringDomainsAgreeWithLastLabelsRow.holds Try.pinned (OpenSpec.ofChange fnCoveringDomainsAgreeWithLastLabelsWrong)

end Rows
end Go.Proofs.Qxb6604303a
