/-
  No cell of these rows narrows 'for every input' (looked for: loops, veiled, ifaces, maps, wideKeys, modest, calm, conditions, laid).
  DERIVED. THE GIVEN ROWS OF THIS SEAT. 4 by the template 'for every input the law returns true; each argument reads behind the call as it read before'; 0 by the template 'total and deterministic' (their statements: YtbpkncpkgmehiaaTotals.lean).
  GIVEN WITH THE SEED: the statements are not yours to turn. If you find one false, say at which input.
  Laid BY PROGRAM, IN A SANDBOX (cutbox-rows.mjs): the forced cells as the released guide's own fill.sh prints them over the translation 667a38914721cc0f… (all of the seat's roots in one cut). By AI agents, Wed Nov 11 2026. No macro, syntax, notation, axiom, sorry.
-/
import Derived.Test.YtbpkncpkgmehiaaChecked
import GoSem.Claim
import GoSem.ClaimJoined
import GoSem.ClaimMapViews
import Derived.JoinedTies
import Derived.KernelRfl
namespace Go.Proofs.Ytbpkncpkgmehiaa
/- THE CELL 'sum', in the pinned program and in every row, IS THE sha256 OF THE DUMP (.gsa) THAT YtbpkncpkgmehiaaProg.lean LOADS. Nothing in Lean hashes anything: it is a label: what it is worth is what the hold of that sum in a sandbox is worth. -/
noncomputable def Try.pinned : Pinned := { name := "ytbpkncpkgmehiaa", sum := "667a38914721cc0fa27b905d9212c95c62937814dc766664654f0fc155b6111a", checked := Try.checked }
namespace Rows
def none {H : Type} : Left H := { results := [], args := [] }

/-- 'n005_55.FnGetStackTailCallShiftsLevels': WHATEVER THE INPUT: true; the input reads as it did. -/
def fnGetStackTailCallShiftsLevelsSpec : ChangeSpec := { name := "fnGetStackTailCallShiftsLevels", fn := fun _ => fun
  | [d1, d2, d3] => { results := [.lit (.bool true)], args := [d1, d2, d3] }
  | _ => none }
def fnGetStackTailCallShiftsLevelsRow : OpenClaim := { program := "ytbpkncpkgmehiaa", sum := "667a38914721cc0fa27b905d9212c95c62937814dc766664654f0fc155b6111a", func := "github.com/yuin/gopher-lua/n005_55.FnGetStackTailCallShiftsLevels", spec := "fnGetStackTailCallShiftsLevels", unfollowed := true, recurses := true, apart := false }
def FnGetStackTailCallShiftsLevelsSaid : Prop := fnGetStackTailCallShiftsLevelsRow.holds Try.pinned (OpenSpec.ofChange fnGetStackTailCallShiftsLevelsSpec)

/-- ITS FALSE NEIGHBOUR: 'it returns false'. Refute it at one input. -/
def fnGetStackTailCallShiftsLevelsWrong : ChangeSpec := { name := "fnGetStackTailCallShiftsLevels", fn := fun _ => fun
  | [d1, d2, d3] => { results := [.lit (.bool false)], args := [d1, d2, d3] }
  | _ => none }
def FnGetStackTailCallShiftsLevelsWrongFalsely : Prop := fnGetStackTailCallShiftsLevelsRow.holds Try.pinned (OpenSpec.ofChange fnGetStackTailCallShiftsLevelsWrong)

/-- 'n005_61.FnSorterSwapExchangesExactlyTwo': WHATEVER THE INPUT: true; the input reads as it did. -/
def fnSorterSwapExchangesExactlyTwoSpec : ChangeSpec := { name := "fnSorterSwapExchangesExactlyTwo", fn := fun _ => fun
  | [d1, d2, d3] => { results := [.lit (.bool true)], args := [d1, d2, d3] }
  | _ => none }
def fnSorterSwapExchangesExactlyTwoRow : OpenClaim := { program := "ytbpkncpkgmehiaa", sum := "667a38914721cc0fa27b905d9212c95c62937814dc766664654f0fc155b6111a", func := "github.com/yuin/gopher-lua/n005_61.FnSorterSwapExchangesExactlyTwo", spec := "fnSorterSwapExchangesExactlyTwo", apart := false }
def FnSorterSwapExchangesExactlyTwoSaid : Prop := fnSorterSwapExchangesExactlyTwoRow.holds Try.pinned (OpenSpec.ofChange fnSorterSwapExchangesExactlyTwoSpec)

/-- ITS FALSE NEIGHBOUR: 'it returns false'. Refute it at one input. -/
def fnSorterSwapExchangesExactlyTwoWrong : ChangeSpec := { name := "fnSorterSwapExchangesExactlyTwo", fn := fun _ => fun
  | [d1, d2, d3] => { results := [.lit (.bool false)], args := [d1, d2, d3] }
  | _ => none }
def FnSorterSwapExchangesExactlyTwoWrongFalsely : Prop := fnSorterSwapExchangesExactlyTwoRow.holds Try.pinned (OpenSpec.ofChange fnSorterSwapExchangesExactlyTwoWrong)

/-- 'n005_61.FnSorterSwapIsSymmetricInvolution': WHATEVER THE INPUT: true; the input reads as it did. -/
def fnSorterSwapIsSymmetricInvolutionSpec : ChangeSpec := { name := "fnSorterSwapIsSymmetricInvolution", fn := fun _ => fun
  | [d1, d2, d3] => { results := [.lit (.bool true)], args := [d1, d2, d3] }
  | _ => none }
def fnSorterSwapIsSymmetricInvolutionRow : OpenClaim := { program := "ytbpkncpkgmehiaa", sum := "667a38914721cc0fa27b905d9212c95c62937814dc766664654f0fc155b6111a", func := "github.com/yuin/gopher-lua/n005_61.FnSorterSwapIsSymmetricInvolution", spec := "fnSorterSwapIsSymmetricInvolution", apart := false }
def FnSorterSwapIsSymmetricInvolutionSaid : Prop := fnSorterSwapIsSymmetricInvolutionRow.holds Try.pinned (OpenSpec.ofChange fnSorterSwapIsSymmetricInvolutionSpec)

/-- ITS FALSE NEIGHBOUR: 'it returns false'. Refute it at one input. -/
def fnSorterSwapIsSymmetricInvolutionWrong : ChangeSpec := { name := "fnSorterSwapIsSymmetricInvolution", fn := fun _ => fun
  | [d1, d2, d3] => { results := [.lit (.bool false)], args := [d1, d2, d3] }
  | _ => none }
def FnSorterSwapIsSymmetricInvolutionWrongFalsely : Prop := fnSorterSwapIsSymmetricInvolutionRow.holds Try.pinned (OpenSpec.ofChange fnSorterSwapIsSymmetricInvolutionWrong)

/-- 'n005_61.FnSorterSwapScriptMatchesModel': WHATEVER THE INPUT: true; the input reads as it did. -/
def fnSorterSwapScriptMatchesModelSpec : ChangeSpec := { name := "fnSorterSwapScriptMatchesModel", fn := fun _ => fun
  | [d1, d2] => { results := [.lit (.bool true)], args := [d1, d2] }
  | _ => none }
def fnSorterSwapScriptMatchesModelRow : OpenClaim := { program := "ytbpkncpkgmehiaa", sum := "667a38914721cc0fa27b905d9212c95c62937814dc766664654f0fc155b6111a", func := "github.com/yuin/gopher-lua/n005_61.FnSorterSwapScriptMatchesModel", spec := "fnSorterSwapScriptMatchesModel", apart := false }
def FnSorterSwapScriptMatchesModelSaid : Prop := fnSorterSwapScriptMatchesModelRow.holds Try.pinned (OpenSpec.ofChange fnSorterSwapScriptMatchesModelSpec)

/-- ITS FALSE NEIGHBOUR: 'it returns false'. Refute it at one input. -/
def fnSorterSwapScriptMatchesModelWrong : ChangeSpec := { name := "fnSorterSwapScriptMatchesModel", fn := fun _ => fun
  | [d1, d2] => { results := [.lit (.bool false)], args := [d1, d2] }
  | _ => none }
def FnSorterSwapScriptMatchesModelWrongFalsely : Prop := fnSorterSwapScriptMatchesModelRow.holds Try.pinned (OpenSpec.ofChange fnSorterSwapScriptMatchesModelWrong)

/- THE SECOND FORM. 'bulk': how many values and letters a reading holds, each counted each time it is reached (what is shared counts as often as it is met; a slice's spare places count too). A statement '..UptoSaid' is the law's where the arguments, and the package variables that the reading takes, are together of bulk at most 1048576: NARROWER than '..Said'. Prove '..Said' where nothing that the law and all that it calls make is longer than what came in: it says more and counts as full. Else prove '..UptoSaid'. A law counts once. -/
mutual
def uptoBulk {H : Type} : DataW H → Nat
  | .lit (.string bytes) => bytes.length + 1
  | .lit _ => 1
  | .nil => 1
  | .ptr d => uptoBulk d + 1
  | .slice elems spare => uptoBulkAll elems + uptoBulkAll spare + 1
  | .agg parts => uptoBulkAll parts + 1
  | .iface _ d => uptoBulk d + 1
  | .map entries => uptoBulkEntries entries + 1
  | .held _ => 1
def uptoBulkAll {H : Type} : List (DataW H) → Nat
  | [] => 0
  | d :: r => uptoBulk d + uptoBulkAll r
def uptoBulkEntries {H : Type} : List (Lit × DataW H) → Nat
  | [] => 0
  | x :: r => uptoBulkEntry x + uptoBulkEntries r
def uptoBulkEntry {H : Type} : Lit × DataW H → Nat
  | (.string bytes, d) => bytes.length + uptoBulk d + 1
  | (_, d) => uptoBulk d + 1
 end
def uptoSmall : (H : Type) → List (DataW H) → Bool := fun _ ds => decide (uptoBulkAll ds ≤ 1048576)
def OpenSpec.upto (s : _root_.Go.ChangeSpec) : _root_.Go.OpenSpec := { _root_.Go.OpenSpec.ofChange s with cond := some uptoSmall }

/-- 'n005_55.FnGetStackTailCallShiftsLevels', WHERE WHAT IT READS IS OF BULK AT MOST 1048576: true; the input reads as it did. -/
def fnGetStackTailCallShiftsLevelsUptoRow : OpenClaim := { program := "ytbpkncpkgmehiaa", sum := "667a38914721cc0fa27b905d9212c95c62937814dc766664654f0fc155b6111a", func := "github.com/yuin/gopher-lua/n005_55.FnGetStackTailCallShiftsLevels", spec := "fnGetStackTailCallShiftsLevels", unfollowed := true, recurses := true, apart := false, narrowed := true }
def FnGetStackTailCallShiftsLevelsUptoSaid : Prop := fnGetStackTailCallShiftsLevelsUptoRow.holds Try.pinned (OpenSpec.upto fnGetStackTailCallShiftsLevelsSpec)

/-- 'n005_61.FnSorterSwapExchangesExactlyTwo', WHERE WHAT IT READS IS OF BULK AT MOST 1048576: true; the input reads as it did. -/
def fnSorterSwapExchangesExactlyTwoUptoRow : OpenClaim := { program := "ytbpkncpkgmehiaa", sum := "667a38914721cc0fa27b905d9212c95c62937814dc766664654f0fc155b6111a", func := "github.com/yuin/gopher-lua/n005_61.FnSorterSwapExchangesExactlyTwo", spec := "fnSorterSwapExchangesExactlyTwo", apart := false, narrowed := true }
def FnSorterSwapExchangesExactlyTwoUptoSaid : Prop := fnSorterSwapExchangesExactlyTwoUptoRow.holds Try.pinned (OpenSpec.upto fnSorterSwapExchangesExactlyTwoSpec)

/-- 'n005_61.FnSorterSwapIsSymmetricInvolution', WHERE WHAT IT READS IS OF BULK AT MOST 1048576: true; the input reads as it did. -/
def fnSorterSwapIsSymmetricInvolutionUptoRow : OpenClaim := { program := "ytbpkncpkgmehiaa", sum := "667a38914721cc0fa27b905d9212c95c62937814dc766664654f0fc155b6111a", func := "github.com/yuin/gopher-lua/n005_61.FnSorterSwapIsSymmetricInvolution", spec := "fnSorterSwapIsSymmetricInvolution", apart := false, narrowed := true }
def FnSorterSwapIsSymmetricInvolutionUptoSaid : Prop := fnSorterSwapIsSymmetricInvolutionUptoRow.holds Try.pinned (OpenSpec.upto fnSorterSwapIsSymmetricInvolutionSpec)

/-- 'n005_61.FnSorterSwapScriptMatchesModel', WHERE WHAT IT READS IS OF BULK AT MOST 1048576: true; the input reads as it did. -/
def fnSorterSwapScriptMatchesModelUptoRow : OpenClaim := { program := "ytbpkncpkgmehiaa", sum := "667a38914721cc0fa27b905d9212c95c62937814dc766664654f0fc155b6111a", func := "github.com/yuin/gopher-lua/n005_61.FnSorterSwapScriptMatchesModel", spec := "fnSorterSwapScriptMatchesModel", apart := false, narrowed := true }
def FnSorterSwapScriptMatchesModelUptoSaid : Prop := fnSorterSwapScriptMatchesModelUptoRow.holds Try.pinned (OpenSpec.upto fnSorterSwapScriptMatchesModelSpec)

end Rows
end Go.Proofs.Ytbpkncpkgmehiaa
