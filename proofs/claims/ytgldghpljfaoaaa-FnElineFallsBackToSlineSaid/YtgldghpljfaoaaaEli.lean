/- The walk of FnElineFallsBackToSline: the Go text returns true and writes nothing that was there. -/
import Derived.Test.YtgldghpljfaoaaaNode
namespace Go.Proofs.Ytgldghpljfaoaaa.fnElineFallsBackToSline
open Go.ChangeShapes Go.WideShapes Go.ChangeAt Go.RowKit
set_option linter.unusedVariables false

-- parameters: line, last
theorem walk (a0 : Int) (a1 : Int) (w : World) (w0 : (Lit.int .i64 a0).wf = true) (w1 : (Lit.int .i64 a1).wf = true) :
    Calls Try.prog 5 #[.int .i64 a0, .int .i64 a1] w fun e w' => e = .returned (.bool true) ∧ Below w.heap.size w w' := by
  by_cases h : a1 = 0
  · subst h
    go_enter Try.func5, Try.ntmps5
    go_wp2_with (first | (go_at_call 15; refine (newNode_any _ _ _).mono ?_; rintro e w1 ⟨rfl, rfl⟩) | (go_at_call 16; refine (sline_any _ a0 0 _ (by simp [go_sem])).mono ?_; rintro e w1 ⟨rfl, rfl⟩) | (go_at_call 17; refine (eline_any _ a0 0 _ (by simp [go_sem]) (by simp [go_sem])).mono ?_; rintro e w1 ⟨rfl, rfl⟩))
    go_ret
    exact ⟨by simp, (Below.refl _ _).alloc (Nat.le_refl _) _⟩
  · have h' : (a1 == 0) = false := by simpa using h
    go_enter Try.func5, Try.ntmps5
    go_wp2_with (first | (go_at_call 15; refine (newNode_any _ _ _).mono ?_; rintro e w1 ⟨rfl, rfl⟩) | (go_at_call 17; refine (eline_any _ a0 a1 _ (by simp [go_sem]) (by simp [go_sem])).mono ?_; rintro e w1 ⟨rfl, rfl⟩))
    go_ret
    exact ⟨by simp, (Below.refl _ _).alloc (Nat.le_refl _) _⟩
end Go.Proofs.Ytgldghpljfaoaaa.fnElineFallsBackToSline
