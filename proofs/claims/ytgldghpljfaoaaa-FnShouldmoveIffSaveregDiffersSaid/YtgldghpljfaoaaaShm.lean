/- The walk of FnShouldmoveIffSaveregDiffers: the Go text returns true and writes nothing that was there. -/
import Derived.Test.YtgldghpljfaoaaaBase
namespace Go.Proofs.Ytgldghpljfaoaaa.fnShouldmoveIffSaveregDiffers
open Go.ChangeShapes Go.WideShapes Go.ChangeAt Go.RowKit
set_option linter.unusedVariables false

-- parameters: c, r, v, reg
theorem walk (a0 : Int) (a1 : Int) (a2 : Int) (a3 : Int) (w : World) (w0 : (Lit.int .i64 a0).wf = true) (w1 : (Lit.int .i64 a1).wf = true) (w2 : (Lit.int .i64 a2).wf = true) (w3 : (Lit.int .i64 a3).wf = true) :
    Calls Try.prog 3 #[.int .i64 a0, .int .i64 a1, .int .i64 a2, .int .i64 a3] w fun e w' => e = .returned (.bool true) ∧ Below w.heap.size w w' := by
  go_enter Try.func3, Try.ntmps3
  go_wp2
  all_goals go_ret
  all_goals refine ⟨?_, (Below.refl _ _).alloc (Nat.le_refl _) _⟩
  all_goals first | rfl | (simp_all; done)
end Go.Proofs.Ytgldghpljfaoaaa.fnShouldmoveIffSaveregDiffers
