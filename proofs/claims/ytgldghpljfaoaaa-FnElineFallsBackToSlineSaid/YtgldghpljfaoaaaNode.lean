/- The contracts of the node's constructor and of its two line readers. -/
import Derived.Test.YtgldghpljfaoaaaBase
namespace Go.Proofs.Ytgldghpljfaoaaa
open Go.ChangeShapes Go.WideShapes Go.ChangeAt Go.RowKit
set_option linter.unusedVariables false

theorem newNode_any (a b : Int) (w : World) : Calls Try.prog 15 #[.int .i64 a, .int .i64 b] w fun e w' =>
    e = .returned (.pointer (some ⟨w.heap.size, 0, none⟩)) ∧ w.alloc (.cells #[.int .i64 a, .int .i64 b] 46) = w' := by
  go_enter Try.func15, Try.ntmps15
  go_wp2
  go_end0
  go_wp2
  go_end0
  go_wp2
  go_ret
  exact ⟨rfl, rfl⟩

theorem method_line (q : Addr) (w : World) : (method 167 27 (.pointer (some q)) "Line").run Try.prog w = .ok (49, .pointer (some q)) w := by kernel_rfl
theorem method_lastLine (q : Addr) (w : World) : (method 167 27 (.pointer (some q)) "LastLine").run Try.prog w = .ok (48, .pointer (some q)) w := by kernel_rfl

theorem sline_any (k : Nat) (a b : Int) (w : World) (hc : w.cell? ⟨k, 0, none⟩ = some (.int .i64 a)) : Calls Try.prog 16 #[.pointer (some ⟨k, 0, none⟩)] w fun e w' =>
    e = .returned (.int .i64 a) ∧ w = w' := by
  have m1 := method_line ⟨k, 0, none⟩
  go_enter Try.func16, Try.ntmps16
  go_wp2
  go_ret
  exact ⟨rfl, rfl⟩

theorem eline_any (k : Nat) (a b : Int) (w : World) (hc : w.cell? ⟨k, 0, none⟩ = some (.int .i64 a)) (hb : w.cell? ⟨k, 1, none⟩ = some (.int .i64 b)) : Calls Try.prog 17 #[.pointer (some ⟨k, 0, none⟩)] w fun e w' =>
    e = .returned (.int .i64 (if b = 0 then a else b)) ∧ w = w' := by
  have m1 := method_line ⟨k, 0, none⟩
  have m2 := method_lastLine ⟨k, 0, none⟩
  by_cases h : b = 0
  · subst h
    go_enter Try.func17, Try.ntmps17
    go_wp2
    go_ret
    exact ⟨rfl, rfl⟩
  · have hb' : (b == 0) = false := by simpa using h
    rw [if_neg h]
    go_enter Try.func17, Try.ntmps17
    go_wp2
    go_ret
    exact ⟨rfl, rfl⟩
end Go.Proofs.Ytgldghpljfaoaaa
