/- The walk of FnLBoolTypeDistinctFromString: the Go text returns true and writes nothing that was there. -/
import Derived.Test.YtgldghpljfaoaaaBase
namespace Go.Proofs.Ytgldghpljfaoaaa.fnLBoolTypeDistinctFromString
open Go.ChangeShapes Go.WideShapes Go.ChangeAt Go.RowKit
set_option linter.unusedVariables false

-- parameters: b, s
theorem walk (a0 : Bool) (a1 : ByteArray) (w : World) (w1 : a1.size ≤ maxLen) :
    Calls Try.prog 7 #[.bool a0, .string a1] w fun e w' => e = .returned (.bool true) ∧ Below w.heap.size w w' := by
  go_enter Try.func7, Try.ntmps7
  go_wp2
  all_goals go_ret
  all_goals refine ⟨?_, by repeat (first | exact Below.refl _ _ | refine Below.drew ?_ | refine Below.alloc ?_ (by simp) _)⟩
  all_goals first | rfl | (simp_all; done)
end Go.Proofs.Ytgldghpljfaoaaa.fnLBoolTypeDistinctFromString
