/- The walk of FnLStateTypeDistinctTag: the Go text returns true and writes nothing that was there. -/
import Derived.Test.YtgnommaelahjlaaBase
namespace Go.Proofs.Ytgnommaelahjlaa.fnLStateTypeDistinctTag
open Go.ChangeShapes Go.WideShapes Go.ChangeAt Go.RowKit
set_option linter.unusedVariables false

-- parameters: 
theorem walk (w : World) :
    Calls Try.prog 4 #[] w fun e w' => e = .returned (.bool true) ∧ Below w.heap.size w w' := by
  go_enter Try.func4, Try.ntmps4
  go_wp2
  all_goals go_ret
  all_goals refine ⟨?_, by repeat (first | exact Below.refl _ _ | refine Below.drew ?_ | refine Below.alloc ?_ (by simp) _)⟩
  all_goals first | rfl | (simp_all; done)
end Go.Proofs.Ytgnommaelahjlaa.fnLStateTypeDistinctTag
