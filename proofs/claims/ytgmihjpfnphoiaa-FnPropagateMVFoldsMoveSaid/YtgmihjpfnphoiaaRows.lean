/-
  No cell of these rows narrows 'for every input' (looked for: loops, veiled, ifaces, maps, wideKeys, modest, calm, conditions, laid).
  DERIVED. THE GIVEN ROWS OF THIS SEAT. 7 by the template 'for every input the law returns true; each argument reads behind the call as it read before'; 0 by the template 'total and deterministic' (their statements: YtgmihjpfnphoiaaTotals.lean).
  GIVEN WITH THE SEED: the statements are not yours to turn. If you find one false, say at which input.
  Laid BY PROGRAM, IN A SANDBOX (cutbox-rows.mjs): the forced cells as the released guide's own fill.sh prints them over the translation 9389eccbc8fc14f1… (all of the seat's roots in one cut). By AI agents, Wed Nov 11 2026. No macro, syntax, notation, axiom, sorry.
-/
import Derived.Test.YtgmihjpfnphoiaaChecked
import GoSem.Claim
import GoSem.ClaimJoined
import GoSem.ClaimMapViews
import Derived.JoinedTies
import Derived.KernelRfl
namespace Go.Proofs.Ytgmihjpfnphoiaa
/- THE CELL 'sum', in the pinned program and in every row, IS THE sha256 OF THE DUMP (.gsa) THAT YtgmihjpfnphoiaaProg.lean LOADS. Nothing in Lean hashes anything: it is a label: what it is worth is what the hold of that sum in a sandbox is worth. -/
noncomputable def Try.pinned : Pinned := { name := "ytgmihjpfnphoiaa", sum := "9389eccbc8fc14f160741f62548551d7f1162c572560d4ab4766dfd9807088f2", checked := Try.checked }
namespace Rows
def none {H : Type} : Left H := { results := [], args := [] }

/-- 'n005_46.FnAddLoadNilPopUndoes': WHATEVER THE INPUT: true; the input reads as it did. -/
def fnAddLoadNilPopUndoesSpec : ChangeSpec := { name := "fnAddLoadNilPopUndoes", fn := fun _ => fun
  | [d1, d2, d3, d4, d5, d6, d7, d8, d9] => { results := [.lit (.bool true)], args := [d1, d2, d3, d4, d5, d6, d7, d8, d9] }
  | _ => none }
def fnAddLoadNilPopUndoesRow : OpenClaim := { program := "ytgmihjpfnphoiaa", sum := "9389eccbc8fc14f160741f62548551d7f1162c572560d4ab4766dfd9807088f2", func := "github.com/yuin/gopher-lua/n005_46.FnAddLoadNilPopUndoes", spec := "fnAddLoadNilPopUndoes", apart := false }
def FnAddLoadNilPopUndoesSaid : Prop := fnAddLoadNilPopUndoesRow.holds Try.pinned (OpenSpec.ofChange fnAddLoadNilPopUndoesSpec)

/-- ITS FALSE NEIGHBOUR: 'it returns false'. Refute it at one input. -/
def fnAddLoadNilPopUndoesWrong : ChangeSpec := { name := "fnAddLoadNilPopUndoes", fn := fun _ => fun
  | [d1, d2, d3, d4, d5, d6, d7, d8, d9] => { results := [.lit (.bool false)], args := [d1, d2, d3, d4, d5, d6, d7, d8, d9] }
  | _ => none }
def FnAddLoadNilPopUndoesWrongFalsely : Prop := fnAddLoadNilPopUndoesRow.holds Try.pinned (OpenSpec.ofChange fnAddLoadNilPopUndoesWrong)

/-- 'n005_46.FnSetOpCodeLastWriteWins': WHATEVER THE INPUT: true; the input reads as it did. -/
def fnSetOpCodeLastWriteWinsSpec : ChangeSpec := { name := "fnSetOpCodeLastWriteWins", fn := fun _ => fun
  | [d1, d2, d3, d4, d5, d6] => { results := [.lit (.bool true)], args := [d1, d2, d3, d4, d5, d6] }
  | _ => none }
def fnSetOpCodeLastWriteWinsRow : OpenClaim := { program := "ytgmihjpfnphoiaa", sum := "9389eccbc8fc14f160741f62548551d7f1162c572560d4ab4766dfd9807088f2", func := "github.com/yuin/gopher-lua/n005_46.FnSetOpCodeLastWriteWins", spec := "fnSetOpCodeLastWriteWins", apart := false }
def FnSetOpCodeLastWriteWinsSaid : Prop := fnSetOpCodeLastWriteWinsRow.holds Try.pinned (OpenSpec.ofChange fnSetOpCodeLastWriteWinsSpec)

/-- ITS FALSE NEIGHBOUR: 'it returns false'. Refute it at one input. -/
def fnSetOpCodeLastWriteWinsWrong : ChangeSpec := { name := "fnSetOpCodeLastWriteWins", fn := fun _ => fun
  | [d1, d2, d3, d4, d5, d6] => { results := [.lit (.bool false)], args := [d1, d2, d3, d4, d5, d6] }
  | _ => none }
def FnSetOpCodeLastWriteWinsWrongFalsely : Prop := fnSetOpCodeLastWriteWinsRow.holds Try.pinned (OpenSpec.ofChange fnSetOpCodeLastWriteWinsWrong)

/-- 'n005_46.FnSetOpCodeCommutesWithSetA': WHATEVER THE INPUT: true; the input reads as it did. -/
def fnSetOpCodeCommutesWithSetASpec : ChangeSpec := { name := "fnSetOpCodeCommutesWithSetA", fn := fun _ => fun
  | [d1, d2, d3, d4, d5, d6] => { results := [.lit (.bool true)], args := [d1, d2, d3, d4, d5, d6] }
  | _ => none }
def fnSetOpCodeCommutesWithSetARow : OpenClaim := { program := "ytgmihjpfnphoiaa", sum := "9389eccbc8fc14f160741f62548551d7f1162c572560d4ab4766dfd9807088f2", func := "github.com/yuin/gopher-lua/n005_46.FnSetOpCodeCommutesWithSetA", spec := "fnSetOpCodeCommutesWithSetA", apart := false }
def FnSetOpCodeCommutesWithSetASaid : Prop := fnSetOpCodeCommutesWithSetARow.holds Try.pinned (OpenSpec.ofChange fnSetOpCodeCommutesWithSetASpec)

/-- ITS FALSE NEIGHBOUR: 'it returns false'. Refute it at one input. -/
def fnSetOpCodeCommutesWithSetAWrong : ChangeSpec := { name := "fnSetOpCodeCommutesWithSetA", fn := fun _ => fun
  | [d1, d2, d3, d4, d5, d6] => { results := [.lit (.bool false)], args := [d1, d2, d3, d4, d5, d6] }
  | _ => none }
def FnSetOpCodeCommutesWithSetAWrongFalsely : Prop := fnSetOpCodeCommutesWithSetARow.holds Try.pinned (OpenSpec.ofChange fnSetOpCodeCommutesWithSetAWrong)

/-- 'n005_46.FnAddLoadNilExact': WHATEVER THE INPUT: true; the input reads as it did. -/
def fnAddLoadNilExactSpec : ChangeSpec := { name := "fnAddLoadNilExact", fn := fun _ => fun
  | [d1, d2, d3, d4, d5, d6] => { results := [.lit (.bool true)], args := [d1, d2, d3, d4, d5, d6] }
  | _ => none }
def fnAddLoadNilExactRow : OpenClaim := { program := "ytgmihjpfnphoiaa", sum := "9389eccbc8fc14f160741f62548551d7f1162c572560d4ab4766dfd9807088f2", func := "github.com/yuin/gopher-lua/n005_46.FnAddLoadNilExact", spec := "fnAddLoadNilExact", apart := false }
def FnAddLoadNilExactSaid : Prop := fnAddLoadNilExactRow.holds Try.pinned (OpenSpec.ofChange fnAddLoadNilExactSpec)

/-- ITS FALSE NEIGHBOUR: 'it returns false'. Refute it at one input. -/
def fnAddLoadNilExactWrong : ChangeSpec := { name := "fnAddLoadNilExact", fn := fun _ => fun
  | [d1, d2, d3, d4, d5, d6] => { results := [.lit (.bool false)], args := [d1, d2, d3, d4, d5, d6] }
  | _ => none }
def FnAddLoadNilExactWrongFalsely : Prop := fnAddLoadNilExactRow.holds Try.pinned (OpenSpec.ofChange fnAddLoadNilExactWrong)

/-- 'n005_46.FnSetOpCodeExact': WHATEVER THE INPUT: true; the input reads as it did. -/
def fnSetOpCodeExactSpec : ChangeSpec := { name := "fnSetOpCodeExact", fn := fun _ => fun
  | [d1, d2, d3, d4, d5] => { results := [.lit (.bool true)], args := [d1, d2, d3, d4, d5] }
  | _ => none }
def fnSetOpCodeExactRow : OpenClaim := { program := "ytgmihjpfnphoiaa", sum := "9389eccbc8fc14f160741f62548551d7f1162c572560d4ab4766dfd9807088f2", func := "github.com/yuin/gopher-lua/n005_46.FnSetOpCodeExact", spec := "fnSetOpCodeExact", apart := false }
def FnSetOpCodeExactSaid : Prop := fnSetOpCodeExactRow.holds Try.pinned (OpenSpec.ofChange fnSetOpCodeExactSpec)

/-- ITS FALSE NEIGHBOUR: 'it returns false'. Refute it at one input. -/
def fnSetOpCodeExactWrong : ChangeSpec := { name := "fnSetOpCodeExact", fn := fun _ => fun
  | [d1, d2, d3, d4, d5] => { results := [.lit (.bool false)], args := [d1, d2, d3, d4, d5] }
  | _ => none }
def FnSetOpCodeExactWrongFalsely : Prop := fnSetOpCodeExactRow.holds Try.pinned (OpenSpec.ofChange fnSetOpCodeExactWrong)

/-- 'n005_46.FnPropagateMVFoldsMove': WHATEVER THE INPUT: true; the input reads as it did. -/
def fnPropagateMVFoldsMoveSpec : ChangeSpec := { name := "fnPropagateMVFoldsMove", fn := fun _ => fun
  | [d1, d2, d3, d4, d5, d6, d7, d8, d9, d10] => { results := [.lit (.bool true)], args := [d1, d2, d3, d4, d5, d6, d7, d8, d9, d10] }
  | _ => none }
def fnPropagateMVFoldsMoveRow : OpenClaim := { program := "ytgmihjpfnphoiaa", sum := "9389eccbc8fc14f160741f62548551d7f1162c572560d4ab4766dfd9807088f2", func := "github.com/yuin/gopher-lua/n005_46.FnPropagateMVFoldsMove", spec := "fnPropagateMVFoldsMove", apart := false }
def FnPropagateMVFoldsMoveSaid : Prop := fnPropagateMVFoldsMoveRow.holds Try.pinned (OpenSpec.ofChange fnPropagateMVFoldsMoveSpec)

/-- ITS FALSE NEIGHBOUR: 'it returns false'. Refute it at one input. -/
def fnPropagateMVFoldsMoveWrong : ChangeSpec := { name := "fnPropagateMVFoldsMove", fn := fun _ => fun
  | [d1, d2, d3, d4, d5, d6, d7, d8, d9, d10] => { results := [.lit (.bool false)], args := [d1, d2, d3, d4, d5, d6, d7, d8, d9, d10] }
  | _ => none }
def FnPropagateMVFoldsMoveWrongFalsely : Prop := fnPropagateMVFoldsMoveRow.holds Try.pinned (OpenSpec.ofChange fnPropagateMVFoldsMoveWrong)

/-- 'n005_46.FnSetAExact': WHATEVER THE INPUT: true; the input reads as it did. -/
def fnSetAExactSpec : ChangeSpec := { name := "fnSetAExact", fn := fun _ => fun
  | [d1, d2, d3, d4, d5] => { results := [.lit (.bool true)], args := [d1, d2, d3, d4, d5] }
  | _ => none }
def fnSetAExactRow : OpenClaim := { program := "ytgmihjpfnphoiaa", sum := "9389eccbc8fc14f160741f62548551d7f1162c572560d4ab4766dfd9807088f2", func := "github.com/yuin/gopher-lua/n005_46.FnSetAExact", spec := "fnSetAExact", apart := false }
def FnSetAExactSaid : Prop := fnSetAExactRow.holds Try.pinned (OpenSpec.ofChange fnSetAExactSpec)

/-- ITS FALSE NEIGHBOUR: 'it returns false'. Refute it at one input. -/
def fnSetAExactWrong : ChangeSpec := { name := "fnSetAExact", fn := fun _ => fun
  | [d1, d2, d3, d4, d5] => { results := [.lit (.bool false)], args := [d1, d2, d3, d4, d5] }
  | _ => none }
def FnSetAExactWrongFalsely : Prop := fnSetAExactRow.holds Try.pinned (OpenSpec.ofChange fnSetAExactWrong)

/- THE SECOND FORM. 'bulk': how many values and letters a reading holds, each counted each time it is reached (what is shared counts as often as it is met; a slice's spare places count too). A statement '..UptoSaid' is the law's where the arguments, and the package variables that the reading takes, are together of bulk at most 1048576: NARROWER than '..Said'. Prove '..Said' where nothing that the law and all that it calls make is longer than what came in: it says more and counts as full. Else prove '..UptoSaid'. A law counts once. -/
mutual
def uptoBulk {H : Type} : DataW H → Nat
  | .lit (.string bytes) => bytes.length + 1
  | .lit _ => 1
  | .nil => 1
  | .ptr d => uptoBulk d + 1
  | .slice elems spare => uptoBulkAll elems + uptoBulkAll spare + 1
  | .agg parts => uptoBulkAll parts + 1
  | .iface _ d => uptoBulk d + 1
  | .map entries => uptoBulkEntries entries + 1
  | .held _ => 1
def uptoBulkAll {H : Type} : List (DataW H) → Nat
  | [] => 0
  | d :: r => uptoBulk d + uptoBulkAll r
def uptoBulkEntries {H : Type} : List (Lit × DataW H) → Nat
  | [] => 0
  | x :: r => uptoBulkEntry x + uptoBulkEntries r
def uptoBulkEntry {H : Type} : Lit × DataW H → Nat
  | (.string bytes, d) => bytes.length + uptoBulk d + 1
  | (_, d) => uptoBulk d + 1
 end
def uptoSmall : (H : Type) → List (DataW H) → Bool := fun _ ds => decide (uptoBulkAll ds ≤ 1048576)
def OpenSpec.upto (s : _root_.Go.ChangeSpec) : _root_.Go.OpenSpec := { _root_.Go.OpenSpec.ofChange s with cond := some uptoSmall }

/-- 'n005_46.FnAddLoadNilPopUndoes', WHERE WHAT IT READS IS OF BULK AT MOST 1048576: true; the input reads as it did. -/
def fnAddLoadNilPopUndoesUptoRow : OpenClaim := { program := "ytgmihjpfnphoiaa", sum := "9389eccbc8fc14f160741f62548551d7f1162c572560d4ab4766dfd9807088f2", func := "github.com/yuin/gopher-lua/n005_46.FnAddLoadNilPopUndoes", spec := "fnAddLoadNilPopUndoes", apart := false, narrowed := true }
def FnAddLoadNilPopUndoesUptoSaid : Prop := fnAddLoadNilPopUndoesUptoRow.holds Try.pinned (OpenSpec.upto fnAddLoadNilPopUndoesSpec)

/-- 'n005_46.FnSetOpCodeLastWriteWins', WHERE WHAT IT READS IS OF BULK AT MOST 1048576: true; the input reads as it did. -/
def fnSetOpCodeLastWriteWinsUptoRow : OpenClaim := { program := "ytgmihjpfnphoiaa", sum := "9389eccbc8fc14f160741f62548551d7f1162c572560d4ab4766dfd9807088f2", func := "github.com/yuin/gopher-lua/n005_46.FnSetOpCodeLastWriteWins", spec := "fnSetOpCodeLastWriteWins", apart := false, narrowed := true }
def FnSetOpCodeLastWriteWinsUptoSaid : Prop := fnSetOpCodeLastWriteWinsUptoRow.holds Try.pinned (OpenSpec.upto fnSetOpCodeLastWriteWinsSpec)

/-- 'n005_46.FnSetOpCodeCommutesWithSetA', WHERE WHAT IT READS IS OF BULK AT MOST 1048576: true; the input reads as it did. -/
def fnSetOpCodeCommutesWithSetAUptoRow : OpenClaim := { program := "ytgmihjpfnphoiaa", sum := "9389eccbc8fc14f160741f62548551d7f1162c572560d4ab4766dfd9807088f2", func := "github.com/yuin/gopher-lua/n005_46.FnSetOpCodeCommutesWithSetA", spec := "fnSetOpCodeCommutesWithSetA", apart := false, narrowed := true }
def FnSetOpCodeCommutesWithSetAUptoSaid : Prop := fnSetOpCodeCommutesWithSetAUptoRow.holds Try.pinned (OpenSpec.upto fnSetOpCodeCommutesWithSetASpec)

/-- 'n005_46.FnAddLoadNilExact', WHERE WHAT IT READS IS OF BULK AT MOST 1048576: true; the input reads as it did. -/
def fnAddLoadNilExactUptoRow : OpenClaim := { program := "ytgmihjpfnphoiaa", sum := "9389eccbc8fc14f160741f62548551d7f1162c572560d4ab4766dfd9807088f2", func := "github.com/yuin/gopher-lua/n005_46.FnAddLoadNilExact", spec := "fnAddLoadNilExact", apart := false, narrowed := true }
def FnAddLoadNilExactUptoSaid : Prop := fnAddLoadNilExactUptoRow.holds Try.pinned (OpenSpec.upto fnAddLoadNilExactSpec)

/-- 'n005_46.FnSetOpCodeExact', WHERE WHAT IT READS IS OF BULK AT MOST 1048576: true; the input reads as it did. -/
def fnSetOpCodeExactUptoRow : OpenClaim := { program := "ytgmihjpfnphoiaa", sum := "9389eccbc8fc14f160741f62548551d7f1162c572560d4ab4766dfd9807088f2", func := "github.com/yuin/gopher-lua/n005_46.FnSetOpCodeExact", spec := "fnSetOpCodeExact", apart := false, narrowed := true }
def FnSetOpCodeExactUptoSaid : Prop := fnSetOpCodeExactUptoRow.holds Try.pinned (OpenSpec.upto fnSetOpCodeExactSpec)

/-- 'n005_46.FnPropagateMVFoldsMove', WHERE WHAT IT READS IS OF BULK AT MOST 1048576: true; the input reads as it did. -/
def fnPropagateMVFoldsMoveUptoRow : OpenClaim := { program := "ytgmihjpfnphoiaa", sum := "9389eccbc8fc14f160741f62548551d7f1162c572560d4ab4766dfd9807088f2", func := "github.com/yuin/gopher-lua/n005_46.FnPropagateMVFoldsMove", spec := "fnPropagateMVFoldsMove", apart := false, narrowed := true }
def FnPropagateMVFoldsMoveUptoSaid : Prop := fnPropagateMVFoldsMoveUptoRow.holds Try.pinned (OpenSpec.upto fnPropagateMVFoldsMoveSpec)

/-- 'n005_46.FnSetAExact', WHERE WHAT IT READS IS OF BULK AT MOST 1048576: true; the input reads as it did. -/
def fnSetAExactUptoRow : OpenClaim := { program := "ytgmihjpfnphoiaa", sum := "9389eccbc8fc14f160741f62548551d7f1162c572560d4ab4766dfd9807088f2", func := "github.com/yuin/gopher-lua/n005_46.FnSetAExact", spec := "fnSetAExact", apart := false, narrowed := true }
def FnSetAExactUptoSaid : Prop := fnSetAExactUptoRow.holds Try.pinned (OpenSpec.upto fnSetAExactSpec)

end Rows
end Go.Proofs.Ytgmihjpfnphoiaa
