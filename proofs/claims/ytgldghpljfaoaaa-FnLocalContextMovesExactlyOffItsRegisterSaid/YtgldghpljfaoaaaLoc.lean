/- The walk of FnLocalContextMovesExactlyOffItsRegister: the Go text returns true and writes nothing that was there. -/
import Derived.Test.YtgldghpljfaoaaaBase
namespace Go.Proofs.Ytgldghpljfaoaaa.fnLocalContextMovesExactlyOffItsRegister
open Go.ChangeShapes Go.WideShapes Go.ChangeAt Go.RowKit
set_option linter.unusedVariables false

-- parameters: c, r, v, x
theorem walk (a0 : Int) (a1 : Int) (a2 : Int) (a3 : Int) (w : World) (w0 : (Lit.int .i64 a0).wf = true) (w1 : (Lit.int .i64 a1).wf = true) (w2 : (Lit.int .i64 a2).wf = true) (w3 : (Lit.int .i64 a3).wf = true) :
    Calls Try.prog 10 #[.int .i64 a0, .int .i64 a1, .int .i64 a2, .int .i64 a3] w fun e w' => e = .returned (.bool true) ∧ Below w.heap.size w w' := by
  by_cases h : a3 = a1
  · subst h
    go_enter Try.func10, Try.ntmps10
    go_wp2
    all_goals go_ret
    all_goals refine ⟨?_, by repeat (first | exact Below.refl _ _ | refine Below.drew ?_ | refine Below.alloc ?_ (by simp) _)⟩
    all_goals first | rfl | (simp_all; done)
  · have h1 : (a3 == a1) = false := by simpa using h
    have h2 : (a1 == a3) = false := by simpa using fun e => h e.symm
    have h3 : (a1 != a3) = true := by simp [bne, h2]
    clear h
    go_enter Try.func10, Try.ntmps10
    go_wp2
    all_goals go_ret
    all_goals refine ⟨?_, by repeat (first | exact Below.refl _ _ | refine Below.drew ?_ | refine Below.alloc ?_ (by simp) _)⟩
    all_goals first | rfl | (simp_all; done)
end Go.Proofs.Ytgldghpljfaoaaa.fnLocalContextMovesExactlyOffItsRegister
