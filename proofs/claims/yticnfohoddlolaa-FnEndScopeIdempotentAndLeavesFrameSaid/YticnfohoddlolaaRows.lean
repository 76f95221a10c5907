/-
  No cell of these rows narrows 'for every input' (looked for: loops, veiled, ifaces, maps, wideKeys, modest, calm, conditions, laid).
  DERIVED. THE GIVEN ROWS OF THIS SEAT. 4 by the template 'for every input the law returns true; each argument reads behind the call as it read before'; 0 by the template 'total and deterministic' (their statements: YticnfohoddlolaaTotals.lean).
  GIVEN WITH THE SEED: the statements are not yours to turn. If you find one false, say at which input.
  Laid BY PROGRAM, IN A SANDBOX (cutbox-rows.mjs): the forced cells as the released guide's own fill.sh prints them over the translation 4f61c917c20099e3… (all of the seat's roots in one cut). By AI agents, Wed Nov 11 2026. No macro, syntax, notation, axiom, sorry.
-/
import Derived.Test.YticnfohoddlolaaChecked
import GoSem.Claim
import GoSem.ClaimJoined
import GoSem.ClaimMapViews
import Derived.JoinedTies
import Derived.KernelRfl
namespace Go.Proofs.Yticnfohoddlolaa
/- THE CELL 'sum', in the pinned program and in every row, IS THE sha256 OF THE DUMP (.gsa) THAT YticnfohoddlolaaProg.lean LOADS. Nothing in Lean hashes anything: it is a label: what it is worth is what the hold of that sum in a sandbox is worth. -/
noncomputable def Try.pinned : Pinned := { name := "yticnfohoddlolaa", sum := "4f61c917c20099e3ef6eb590a28e6ffafbbdb5e681cd76151920e2ba1c7258f6", checked := Try.checked }
namespace Rows
def none {H : Type} : Left H := { results := [], args := [] }

/-- 'n005_43.FnEndScopeIdempotentAndLeavesFrame': WHATEVER THE INPUT: true; the input reads as it did. -/
def fnEndScopeIdempotentAndLeavesFrameSpec : ChangeSpec := { name := "fnEndScopeIdempotentAndLeavesFrame", fn := fun _ => fun
  | [d1, d2, d3, d4, d5, d6] => { results := [.lit (.bool true)], args := [d1, d2, d3, d4, d5, d6] }
  | _ => none }
def fnEndScopeIdempotentAndLeavesFrameRow : OpenClaim := { program := "yticnfohoddlolaa", sum := "4f61c917c20099e3ef6eb590a28e6ffafbbdb5e681cd76151920e2ba1c7258f6", func := "github.com/yuin/gopher-lua/n005_43.FnEndScopeIdempotentAndLeavesFrame", spec := "fnEndScopeIdempotentAndLeavesFrame", apart := false }
def FnEndScopeIdempotentAndLeavesFrameSaid : Prop := fnEndScopeIdempotentAndLeavesFrameRow.holds Try.pinned (OpenSpec.ofChange fnEndScopeIdempotentAndLeavesFrameSpec)

/-- ITS FALSE NEIGHBOUR: 'it returns false'. Refute it at one input. -/
def fnEndScopeIdempotentAndLeavesFrameWrong : ChangeSpec := { name := "fnEndScopeIdempotentAndLeavesFrame", fn := fun _ => fun
  | [d1, d2, d3, d4, d5, d6] => { results := [.lit (.bool false)], args := [d1, d2, d3, d4, d5, d6] }
  | _ => none }
def FnEndScopeIdempotentAndLeavesFrameWrongFalsely : Prop := fnEndScopeIdempotentAndLeavesFrameRow.holds Try.pinned (OpenSpec.ofChange fnEndScopeIdempotentAndLeavesFrameWrong)

/-- 'n005_43.FnCloseUpvaluesOneInstructionPerClose': WHATEVER THE INPUT: true; the input reads as it did. -/
def fnCloseUpvaluesOneInstructionPerCloseSpec : ChangeSpec := { name := "fnCloseUpvaluesOneInstructionPerClose", fn := fun _ => fun
  | [d1, d2, d3, d4, d5] => { results := [.lit (.bool true)], args := [d1, d2, d3, d4, d5] }
  | _ => none }
def fnCloseUpvaluesOneInstructionPerCloseRow : OpenClaim := { program := "yticnfohoddlolaa", sum := "4f61c917c20099e3ef6eb590a28e6ffafbbdb5e681cd76151920e2ba1c7258f6", func := "github.com/yuin/gopher-lua/n005_43.FnCloseUpvaluesOneInstructionPerClose", spec := "fnCloseUpvaluesOneInstructionPerClose", apart := false }
def FnCloseUpvaluesOneInstructionPerCloseSaid : Prop := fnCloseUpvaluesOneInstructionPerCloseRow.holds Try.pinned (OpenSpec.ofChange fnCloseUpvaluesOneInstructionPerCloseSpec)

/-- ITS FALSE NEIGHBOUR: 'it returns false'. Refute it at one input. -/
def fnCloseUpvaluesOneInstructionPerCloseWrong : ChangeSpec := { name := "fnCloseUpvaluesOneInstructionPerClose", fn := fun _ => fun
  | [d1, d2, d3, d4, d5] => { results := [.lit (.bool false)], args := [d1, d2, d3, d4, d5] }
  | _ => none }
def FnCloseUpvaluesOneInstructionPerCloseWrongFalsely : Prop := fnCloseUpvaluesOneInstructionPerCloseRow.holds Try.pinned (OpenSpec.ofChange fnCloseUpvaluesOneInstructionPerCloseWrong)

/-- 'n005_43.FnEndScopeStampsExactlyBlockLocals': WHATEVER THE INPUT: true; the input reads as it did. -/
def fnEndScopeStampsExactlyBlockLocalsSpec : ChangeSpec := { name := "fnEndScopeStampsExactlyBlockLocals", fn := fun _ => fun
  | [d1, d2, d3, d4, d5] => { results := [.lit (.bool true)], args := [d1, d2, d3, d4, d5] }
  | _ => none }
def fnEndScopeStampsExactlyBlockLocalsRow : OpenClaim := { program := "yticnfohoddlolaa", sum := "4f61c917c20099e3ef6eb590a28e6ffafbbdb5e681cd76151920e2ba1c7258f6", func := "github.com/yuin/gopher-lua/n005_43.FnEndScopeStampsExactlyBlockLocals", spec := "fnEndScopeStampsExactlyBlockLocals", apart := false }
def FnEndScopeStampsExactlyBlockLocalsSaid : Prop := fnEndScopeStampsExactlyBlockLocalsRow.holds Try.pinned (OpenSpec.ofChange fnEndScopeStampsExactlyBlockLocalsSpec)

/-- ITS FALSE NEIGHBOUR: 'it returns false'. Refute it at one input. -/
def fnEndScopeStampsExactlyBlockLocalsWrong : ChangeSpec := { name := "fnEndScopeStampsExactlyBlockLocals", fn := fun _ => fun
  | [d1, d2, d3, d4, d5] => { results := [.lit (.bool false)], args := [d1, d2, d3, d4, d5] }
  | _ => none }
def FnEndScopeStampsExactlyBlockLocalsWrongFalsely : Prop := fnEndScopeStampsExactlyBlockLocalsRow.holds Try.pinned (OpenSpec.ofChange fnEndScopeStampsExactlyBlockLocalsWrong)

/-- 'n005_43.FnCloseUpvaluesExact': WHATEVER THE INPUT: true; the input reads as it did. -/
def fnCloseUpvaluesExactSpec : ChangeSpec := { name := "fnCloseUpvaluesExact", fn := fun _ => fun
  | [d1, d2, d3, d4, d5] => { results := [.lit (.bool true)], args := [d1, d2, d3, d4, d5] }
  | _ => none }
def fnCloseUpvaluesExactRow : OpenClaim := { program := "yticnfohoddlolaa", sum := "4f61c917c20099e3ef6eb590a28e6ffafbbdb5e681cd76151920e2ba1c7258f6", func := "github.com/yuin/gopher-lua/n005_43.FnCloseUpvaluesExact", spec := "fnCloseUpvaluesExact", apart := false }
def FnCloseUpvaluesExactSaid : Prop := fnCloseUpvaluesExactRow.holds Try.pinned (OpenSpec.ofChange fnCloseUpvaluesExactSpec)

/-- ITS FALSE NEIGHBOUR: 'it returns false'. Refute it at one input. -/
def fnCloseUpvaluesExactWrong : ChangeSpec := { name := "fnCloseUpvaluesExact", fn := fun _ => fun
  | [d1, d2, d3, d4, d5] => { results := [.lit (.bool false)], args := [d1, d2, d3, d4, d5] }
  | _ => none }
def FnCloseUpvaluesExactWrongFalsely : Prop := fnCloseUpvaluesExactRow.holds Try.pinned (OpenSpec.ofChange fnCloseUpvaluesExactWrong)

/- THE SECOND FORM. 'bulk': how many values and letters a reading holds, each counted each time it is reached (what is shared counts as often as it is met; a slice's spare places count too). A statement '..UptoSaid' is the law's where the arguments, and the package variables that the reading takes, are together of bulk at most 1048576: NARROWER than '..Said'. Prove '..Said' where nothing that the law and all that it calls make is longer than what came in: it says more and counts as full. Else prove '..UptoSaid'. A law counts once. -/
mutual
def uptoBulk {H : Type} : DataW H → Nat
  | .lit (.string bytes) => bytes.length + 1
  | .lit _ => 1
  | .nil => 1
  | .ptr d => uptoBulk d + 1
  | .slice elems spare => uptoBulkAll elems + uptoBulkAll spare + 1
  | .agg parts => uptoBulkAll parts + 1
  | .iface _ d => uptoBulk d + 1
  | .map entries => uptoBulkEntries entries + 1
  | .held _ => 1
def uptoBulkAll {H : Type} : List (DataW H) → Nat
  | [] => 0
  | d :: r => uptoBulk d + uptoBulkAll r
def uptoBulkEntries {H : Type} : List (Lit × DataW H) → Nat
  | [] => 0
  | x :: r => uptoBulkEntry x + uptoBulkEntries r
def uptoBulkEntry {H : Type} : Lit × DataW H → Nat
  | (.string bytes, d) => bytes.length + uptoBulk d + 1
  | (_, d) => uptoBulk d + 1
 end
def uptoSmall : (H : Type) → List (DataW H) → Bool := fun _ ds => decide (uptoBulkAll ds ≤ 1048576)
def OpenSpec.upto (s : _root_.Go.ChangeSpec) : _root_.Go.OpenSpec := { _root_.Go.OpenSpec.ofChange s with cond := some uptoSmall }

/-- 'n005_43.FnEndScopeIdempotentAndLeavesFrame', WHERE WHAT IT READS IS OF BULK AT MOST 1048576: true; the input reads as it did. -/
def fnEndScopeIdempotentAndLeavesFrameUptoRow : OpenClaim := { program := "yticnfohoddlolaa", sum := "4f61c917c20099e3ef6eb590a28e6ffafbbdb5e681cd76151920e2ba1c7258f6", func := "github.com/yuin/gopher-lua/n005_43.FnEndScopeIdempotentAndLeavesFrame", spec := "fnEndScopeIdempotentAndLeavesFrame", apart := false, narrowed := true }
def FnEndScopeIdempotentAndLeavesFrameUptoSaid : Prop := fnEndScopeIdempotentAndLeavesFrameUptoRow.holds Try.pinned (OpenSpec.upto fnEndScopeIdempotentAndLeavesFrameSpec)

/-- 'n005_43.FnCloseUpvaluesOneInstructionPerClose', WHERE WHAT IT READS IS OF BULK AT MOST 1048576: true; the input reads as it did. -/
def fnCloseUpvaluesOneInstructionPerCloseUptoRow : OpenClaim := { program := "yticnfohoddlolaa", sum := "4f61c917c20099e3ef6eb590a28e6ffafbbdb5e681cd76151920e2ba1c7258f6", func := "github.com/yuin/gopher-lua/n005_43.FnCloseUpvaluesOneInstructionPerClose", spec := "fnCloseUpvaluesOneInstructionPerClose", apart := false, narrowed := true }
def FnCloseUpvaluesOneInstructionPerCloseUptoSaid : Prop := fnCloseUpvaluesOneInstructionPerCloseUptoRow.holds Try.pinned (OpenSpec.upto fnCloseUpvaluesOneInstructionPerCloseSpec)

/-- 'n005_43.FnEndScopeStampsExactlyBlockLocals', WHERE WHAT IT READS IS OF BULK AT MOST 1048576: true; the input reads as it did. -/
def fnEndScopeStampsExactlyBlockLocalsUptoRow : OpenClaim := { program := "yticnfohoddlolaa", sum := "4f61c917c20099e3ef6eb590a28e6ffafbbdb5e681cd76151920e2ba1c7258f6", func := "github.com/yuin/gopher-lua/n005_43.FnEndScopeStampsExactlyBlockLocals", spec := "fnEndScopeStampsExactlyBlockLocals", apart := false, narrowed := true }
def FnEndScopeStampsExactlyBlockLocalsUptoSaid : Prop := fnEndScopeStampsExactlyBlockLocalsUptoRow.holds Try.pinned (OpenSpec.upto fnEndScopeStampsExactlyBlockLocalsSpec)

/-- 'n005_43.FnCloseUpvaluesExact', WHERE WHAT IT READS IS OF BULK AT MOST 1048576: true; the input reads as it did. -/
def fnCloseUpvaluesExactUptoRow : OpenClaim := { program := "yticnfohoddlolaa", sum := "4f61c917c20099e3ef6eb590a28e6ffafbbdb5e681cd76151920e2ba1c7258f6", func := "github.com/yuin/gopher-lua/n005_43.FnCloseUpvaluesExact", spec := "fnCloseUpvaluesExact", apart := false, narrowed := true }
def FnCloseUpvaluesExactUptoSaid : Prop := fnCloseUpvaluesExactUptoRow.holds Try.pinned (OpenSpec.upto fnCloseUpvaluesExactSpec)

end Rows
end Go.Proofs.Yticnfohoddlolaa
