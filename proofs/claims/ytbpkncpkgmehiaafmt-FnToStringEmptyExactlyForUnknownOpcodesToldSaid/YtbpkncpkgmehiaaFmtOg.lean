/- The fields of an instruction: each getter gives an int; the opcode is the instruction's top six bits. -/
import Derived.Test.YtbpkncpkgmehiaaFmtOp
namespace Go.Proofs.YtbpkncpkgmehiaaFmt
open Go.ChangeShapes Go.WideShapes Go.ChangeAt Go.RowKit
set_option linter.unusedVariables false

def I64 (x : Int) : Prop := (Lit.int .i64 x).wf = true
theorem i64_wrap (x : Int) : I64 (IntKind.i64.wrap x) := by
  unfold I64
  simp [Lit.wf, IntKind.min, IntKind.max, IntKind.bits, IntKind.signed, IntKind.wrap_i64]
  omega
theorem i64_bits (o : BinOp) (x y : Int) (h : o = .and) : I64 (bits o .i64 x y) := by
  subst h
  exact i64_wrap _
/-- Some int is handed back; memory stays. -/
def SomeI (w : World) (e : Ending) (w' : World) : Prop := ∃ x, I64 x ∧ e = .returned (.int .i64 x) ∧ w = w'

theorem op_any (i : Int) (w : World) (h0 : 0 ≤ i) (h1 : i ≤ 4294967295) : Calls Tryf.prog 6 #[.int .u32 i] w fun e w' => e = .returned (.int .i64 (i / 67108864)) ∧ w = w' := by
  go_enter Tryf.func6, Tryf.ntmps6
  go_wp2
  go_ret
  exact ⟨rfl, rfl⟩
theorem a_any (i : Int) (w : World) : Calls Tryf.prog 7 #[.int .u32 i] w (SomeI w) := by
  go_enter Tryf.func7, Tryf.ntmps7
  go_wp2
  go_ret
  exact ⟨_, i64_bits _ _ _ rfl, rfl, rfl⟩
theorem b_any (i : Int) (w : World) : Calls Tryf.prog 8 #[.int .u32 i] w (SomeI w) := by
  go_enter Tryf.func8, Tryf.ntmps8
  go_wp2
  go_ret
  exact ⟨_, wrap64_wf _, rfl, rfl⟩
theorem c_any (i : Int) (w : World) : Calls Tryf.prog 9 #[.int .u32 i] w (SomeI w) := by
  go_enter Tryf.func9, Tryf.ntmps9
  go_wp2
  go_ret
  exact ⟨_, i64_bits _ _ _ rfl, rfl, rfl⟩
theorem bx_any (i : Int) (w : World) : Calls Tryf.prog 10 #[.int .u32 i] w (SomeI w) := by
  go_enter Tryf.func10, Tryf.ntmps10
  go_wp2
  go_ret
  exact ⟨_, wrap64_wf _, rfl, rfl⟩
theorem sbx_any (i : Int) (w : World) : Calls Tryf.prog 11 #[.int .u32 i] w (SomeI w) := by
  go_enter Tryf.func11, Tryf.ntmps11
  go_wp2_with fail
  refine (bx_any _ _).mono ?_
  rintro e w' ⟨x, hx, rfl, rfl⟩
  go_wp2
  go_ret
  exact ⟨_, wrap64_wf _, rfl, rfl⟩
end Go.Proofs.YtbpkncpkgmehiaaFmt
