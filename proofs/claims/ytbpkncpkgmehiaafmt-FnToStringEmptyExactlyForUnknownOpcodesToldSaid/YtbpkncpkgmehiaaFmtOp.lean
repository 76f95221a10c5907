/- fmt.Sprintf's stop: the closed facts at operands that are ints, and a string. -/
import Derived.Test.YtbpkncpkgmehiaaFmtOt
import Derived.Stop.CallBack
namespace Go.Proofs.YtbpkncpkgmehiaaFmt
open Go.ChangeShapes Go.WideShapes Go.ChangeAt Go.RowKit
open Go.Extern.Stop Go.Stop Go.Extern Go.Kit
set_option linter.unusedVariables false

theorem callSpr (args : Array Value) (w : World) : (callFunc 12 args).run Tryf.prog w = ((FmtStop.sprintf #[9, 49] #[9] args).run Tryf.prog w).andThen fun v w' => .ok (.value v) w' :=
  run_callFunc_extern Tryf.func12 (by kernel_rfl) (by kernel_rfl) (by kernel_rfl) (by kernel_rfl) args w
theorem guardF (name : String) (w : World) : (FmtStop.guard name).run Tryf.prog w = .ok () w := by kernel_rfl
theorem op_int_v (x : Int) (w : World) : (FmtStop.operand "fmt.Sprintf" false 118 false (.iface 3 (.int .i64 x))).run Tryf.prog w = .ok (intShape, digits 8 (x % 18446744073709551616).toNat) w := by kernel_rfl
theorem op_int_d (x : Int) (w : World) : (FmtStop.operand "fmt.Sprintf" false 100 false (.iface 3 (.int .i64 x))).run Tryf.prog w = .ok (intShape, digits 8 (x % 18446744073709551616).toNat) w := by kernel_rfl
theorem op_str_s (s : ByteArray) (w : World) : (FmtStop.operand "fmt.Sprintf" false 115 false (.iface 9 (.string s))).run Tryf.prog w = .ok (strShape, FmtStop.pack s.data.toList) w := by kernel_rfl

end Go.Proofs.YtbpkncpkgmehiaaFmt
