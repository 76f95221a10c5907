/- The walk of FnLBoolStringParsesBack: the Go text returns true and writes nothing that was there. -/
import Derived.Test.YtgldghpljfaoaaaBase
namespace Go.Proofs.Ytgldghpljfaoaaa.fnLBoolStringParsesBack
open Go.ChangeShapes Go.WideShapes Go.ChangeAt Go.RowKit
set_option linter.unusedVariables false

-- parameters: a, b
theorem walk (a0 : Bool) (a1 : Bool) (w : World) :
    Calls Try.prog 6 #[.bool a0, .bool a1] w fun e w' => e = .returned (.bool true) ∧ Below w.heap.size w w' := by
  go_enter Try.func6, Try.ntmps6
  go_wp2
  all_goals go_ret
  all_goals refine ⟨?_, by repeat (first | exact Below.refl _ _ | refine Below.drew ?_ | refine Below.alloc ?_ (by simp) _)⟩
  all_goals first | rfl | (simp_all; done)
end Go.Proofs.Ytgldghpljfaoaaa.fnLBoolStringParsesBack
