/- The walk of FnUserDataStringNilIsZeroAddress. -/
import Derived.Test.YtgnommaelahjlaaFmtBase
import Derived.Stop.CallBack
import Derived.Stop.IfaceNil
import Derived.Stop.JoinedAt
import Derived.Stop.Texts
import Derived.Stop.JoinedTold
import Derived.Stop.FmtTextKit
import Derived.Stop.FmtTextSlices
namespace Go.Proofs.YtgnommaelahjlaaFmt.fnUserDataStringNilIsZeroAddress
open Go.ChangeShapes Go.WideShapes Go.ChangeAt Go.RowKit
open Go.Extern.Stop Go.Stop Go.Extern Go.Kit
set_option linter.unusedVariables false

theorem callSpr (args : Array Value) (w : World) : (callFunc 12 args).run Tryf.prog w = (FmtCalls.sprintf #[9, 60] #[9] args).run Tryf.prog w :=
  run_callFunc_next Tryf.func12 (by kernel_rfl) (by kernel_rfl) (by kernel_rfl) args w
theorem guardF (name : String) (w : World) : (FmtStop.guard name).run Tryf.prog w = .ok () w := by kernel_rfl
theorem nextTurns : Extern.next FmtCalls.turnsRow = some (FmtCalls.begun #[] #[]) := by kernel_rfl
-- "userdata: %p"
theorem fmt0 : FmtStop.printed? ⟨#[117, 115, 101, 114, 100, 97, 116, 97, 58, 32, 37, 112]⟩ 1 = some [(0, 112, false)] := by kernel_rfl
theorem fmt0r (w : World) : (FmtDoors.printed ⟨#[117, 115, 101, 114, 100, 97, 116, 97, 58, 32, 37, 112]⟩ 1).run Tryf.prog w = .ok [(0, 112, false)] w := by kernel_rfl
def shapeU : List UInt8 := 23 :: FmtStop.pack [42, 108, 117, 97, 46, 76, 85, 115, 101, 114, 68, 97, 116, 97]
theorem actU (name : String) (w : World) : (FmtCalls.act name false 112 false (.iface 26 (.pointer none))).run Tryf.prog w = .ok (.closed false) w := by kernel_rfl
theorem opU (name : String) (w : World) : (FmtStop.operand name false 112 false (.iface 26 (.pointer none))).run Tryf.prog w = .ok (shapeU, []) w := by kernel_rfl
attribute [local go_sem] callSpr guardF fmt0 fmt0r actU opU

def reading : List (List UInt8) := [[117, 115, 101, 114, 100, 97, 116, 97, 58, 32, 37, 112], shapeU, []]
theorem str_any (F : Interp) (w : World) (hF : F.answers w.tape) :
    Calls Tryf.prog 7 #[.pointer none] w fun e w' => e = .returned (.string (FmtStop.textOf (F "fmt.Sprintf" reading 0))) ∧ w' = (w.alloc (.cells #[.iface 26 (.pointer none)] 20)).drew := by
  have hF' := answers_open hF
  go_enter Tryf.func7, Tryf.ntmps7
  go_wp2
  apply rows_value nextTurns
  case hr =>
    go_simp
    exact ⟨rfl, rfl⟩
  case h =>
    go_wp2
    go_ret
    exact ⟨rfl, rfl⟩
theorem t_text : FmtText.text "fmt.Sprintf" reading = some [117, 115, 101, 114, 100, 97, 116, 97, 58, 32, 48, 120, 48] := by decide +kernel
theorem told (F : Interp) : FmtStop.textOf (F.told "fmt.Sprintf" reading 0) = ⟨#[117, 115, 101, 114, 100, 97, 116, 97, 58, 32, 48, 120, 48]⟩ := by
  have h := told_string F t_text (by simp)
  have h2 := textOf_list F.told "fmt.Sprintf" reading
  rw [h] at h2
  obtain ⟨d, hd⟩ : ∃ d, FmtStop.textOf (F.told "fmt.Sprintf" reading 0) = d := ⟨_, rfl⟩
  rw [hd] at h2 ⊢
  obtain ⟨⟨l⟩⟩ := d
  simp at h2
  rw [h2]

set_option maxHeartbeats 1000000 in
theorem walk (F : Interp) (w : World) (hF : F.told.answers w.tape) :
    Calls Tryf.prog 4 #[] w fun e w' => e = .returned (.bool true) ∧ Below w.heap.size w w' := by
  go_enter Tryf.func4, Tryf.ntmps4
  go_wp2_with fail
  refine (str_any F.told w hF).mono ?_
  rintro e w1 ⟨rfl, rfl⟩
  rw [told F]
  go_wp2_with fail
  go_ret
  exact ⟨rfl, ((Below.refl w.heap.size w).alloc (Nat.le_refl _) _).drew⟩
end Go.Proofs.YtgnommaelahjlaaFmt.fnUserDataStringNilIsZeroAddress
