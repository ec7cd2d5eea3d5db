import Derived.Test.Qxb6600577aProg
import Derived.Test.Qxb6600577aRoutes
import Derived.WalkKit
import Derived.ProofKit
import Derived.OpenShut
import Derived.Below
import Derived.WalkSmall
import Derived.WalkSpells
import Derived.Handy
import Derived.Deep.QuietTactic
import Derived.BigQuiet
import Derived.BigRegion
import Derived.Laws.CopyRow
namespace Go.Proofs.Qxb6600577a
open Go.ChangeShapes Go.WideShapes Go.ChangeAt Go.RowKit

set_option maxHeartbeats 400000 in
/-- 'lawB1ToStep'. -/
theorem toStep26 (p : ByteArray) (l n : Int) (w : World) :
    Calls Try.prog 26 #[.agg #[.string p, .int .i64 l, .int .i64 n]] w fun e w' => e = .returned (.agg #[.string p, .int .i64 l, .int .i64 n]) ∧ Below w.heap.size w w' := by
  go_enter Try.func26, Try.ntmps26
  go_wp2
  go_returns
  refine ⟨rfl, ?_⟩
  go_grown

set_option maxHeartbeats 400000 in
/-- 'lawB1StepIs' at the same step twice. -/
theorem stepIs28 (p : ByteArray) (l n : Int) (w : World) :
    Calls Try.prog 28 #[.agg #[.string p, .int .i64 l, .int .i64 n], .agg #[.string p, .int .i64 l, .int .i64 n]] w fun e w' => e = .returned (.bool true) ∧ Below w.heap.size w w' := by
  go_enter Try.func28, Try.ntmps28
  go_wp2
  go_ret
  refine ⟨rfl, ?_⟩
  go_grown
end Go.Proofs.Qxb6600577a
