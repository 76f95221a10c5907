/- The walk of FnLStringStringConcatInjective: the Go text returns true and writes nothing that was there. -/
import Derived.Test.YtgldghpljfaoaaaBase
namespace Go.Proofs.Ytgldghpljfaoaaa.fnLStringStringConcatInjective
open Go.ChangeShapes Go.WideShapes Go.ChangeAt Go.RowKit
set_option linter.unusedVariables false

-- parameters: a, b
theorem walk (a0 : ByteArray) (a1 : ByteArray) (w : World) (w0 : a0.size ≤ maxLen) (w1 : a1.size ≤ maxLen) :
    Calls Try.prog 9 #[.string a0, .string a1] w fun e w' => e = .returned (.bool true) ∧ Below w.heap.size w w' := by
  go_enter Try.func9, Try.ntmps9
  go_wp2
  all_goals go_ret
  all_goals refine ⟨?_, by repeat (first | exact Below.refl _ _ | refine Below.drew ?_ | refine Below.alloc ?_ (by simp) _)⟩
  all_goals first | rfl | (simp_all; done)
end Go.Proofs.Ytgldghpljfaoaaa.fnLStringStringConcatInjective
