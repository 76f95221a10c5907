/-
  NARROWER THAN 'FOR EVERY INPUT', by the rows' own cells (each row's printed sentence says how): FnChannelTypeNamesChannel: laid.
  DERIVED. THE GIVEN ROWS OF THIS SEAT. 1 by the template 'for every input the law returns true; each argument reads behind the call as it read before'; 0 by the template 'total and deterministic' (their statements: YtgnommaelahjlaaDoorTotals.lean).
  GIVEN WITH THE SEED: the statements are not yours to turn. If you find one false, say at which input.
  Laid BY PROGRAM, IN A SANDBOX (cutbox-rows.mjs): the forced cells as the released guide's own fill.sh prints them over the translation 41eef0c15fd5d8ec… (all of the seat's roots in one cut). By AI agents, Wed Nov 11 2026. No macro, syntax, notation, axiom, sorry.
-/
import Derived.Test.YtgnommaelahjlaaDoorChecked
import GoSem.Claim
import GoSem.ClaimJoined
import GoSem.ClaimMapViews
import Derived.JoinedTies
import Derived.KernelRfl
namespace Go.Proofs.YtgnommaelahjlaaDoor
/- THE CELL 'sum', in the pinned program and in every row, IS THE sha256 OF THE DUMP (.gsa) THAT YtgnommaelahjlaaDoorProg.lean LOADS. Nothing in Lean hashes anything: it is a label: what it is worth is what the hold of that sum in a sandbox is worth. -/
noncomputable def Tryd.pinned : Pinned := { name := "ytgnommaelahjlaadoor", sum := "41eef0c15fd5d8ecc2d7b4f2be8837a1d69ca15aac2a7704941def39e7b8bb23", checked := Tryd.checked }
namespace Rows
def none {H : Type} : Left H := { results := [], args := [] }

/- WHAT THE LISTED PACKAGE-LEVEL VARIABLES READ AS WHEN THE CALL BEGINS. Each datum BY PROGRAM (the guide's laid-datum.mjs) off the statement by which the dump's own 'gosem.cut.vars' lays the variable. In a bare row this is a premise. The card (YtgnommaelahjlaaDoorCards.lean) ties it to the program's text. -/
def laid_github_com_yuin_gopher_lua_lValueNames {H : Type} : DataW H := .agg [.lit (.string [110, 105, 108]), .lit (.string [98, 111, 111, 108, 101, 97, 110]), .lit (.string [110, 117, 109, 98, 101, 114]), .lit (.string [115, 116, 114, 105, 110, 103]), .lit (.string [102, 117, 110, 99, 116, 105, 111, 110]), .lit (.string [117, 115, 101, 114, 100, 97, 116, 97]), .lit (.string [116, 104, 114, 101, 97, 100]), .lit (.string [116, 97, 98, 108, 101]), .lit (.string [99, 104, 97, 110, 110, 101, 108])]

/-- 'n005_68.FnChannelTypeNamesChannel': WHATEVER THE INPUT: true; the input reads as it did. -/
def fnChannelTypeNamesChannelSpec : ChangeSpec := { name := "fnChannelTypeNamesChannel", vars := ["github.com/yuin/gopher-lua.lValueNames"], fn := fun _ => fun
  | [d1, d2, g1] => { results := [.lit (.bool true)], args := [d1, d2], vars := [g1] }
  | _ => none }
def fnChannelTypeNamesChannelRow : OpenClaim := { program := "ytgnommaelahjlaadoor", sum := "41eef0c15fd5d8ecc2d7b4f2be8837a1d69ca15aac2a7704941def39e7b8bb23", func := "github.com/yuin/gopher-lua/n005_68.FnChannelTypeNamesChannel", spec := "fnChannelTypeNamesChannel", named := ["github.com/yuin/gopher-lua.lValueNames"], apart := false, laid := [("github.com/yuin/gopher-lua.lValueNames", laid_github_com_yuin_gopher_lua_lValueNames)] }
def FnChannelTypeNamesChannelSaid : Prop := fnChannelTypeNamesChannelRow.holds Tryd.pinned (OpenSpec.ofChange fnChannelTypeNamesChannelSpec)

/-- ITS FALSE NEIGHBOUR: 'it returns false'. Refute it at one input. -/
def fnChannelTypeNamesChannelWrong : ChangeSpec := { name := "fnChannelTypeNamesChannel", vars := ["github.com/yuin/gopher-lua.lValueNames"], fn := fun _ => fun
  | [d1, d2, g1] => { results := [.lit (.bool false)], args := [d1, d2], vars := [g1] }
  | _ => none }
def FnChannelTypeNamesChannelWrongFalsely : Prop := fnChannelTypeNamesChannelRow.holds Tryd.pinned (OpenSpec.ofChange fnChannelTypeNamesChannelWrong)

/- THE SECOND FORM. 'bulk': how many values and letters a reading holds, each counted each time it is reached (what is shared counts as often as it is met; a slice's spare places count too). A statement '..UptoSaid' is the law's where the arguments, and the package variables that the reading takes, are together of bulk at most 1048576: NARROWER than '..Said'. Prove '..Said' where nothing that the law and all that it calls make is longer than what came in: it says more and counts as full. Else prove '..UptoSaid'. A law counts once. -/
mutual
def uptoBulk {H : Type} : DataW H → Nat
  | .lit (.string bytes) => bytes.length + 1
  | .lit _ => 1
  | .nil => 1
  | .ptr d => uptoBulk d + 1
  | .slice elems spare => uptoBulkAll elems + uptoBulkAll spare + 1
  | .agg parts => uptoBulkAll parts + 1
  | .iface _ d => uptoBulk d + 1
  | .map entries => uptoBulkEntries entries + 1
  | .held _ => 1
def uptoBulkAll {H : Type} : List (DataW H) → Nat
  | [] => 0
  | d :: r => uptoBulk d + uptoBulkAll r
def uptoBulkEntries {H : Type} : List (Lit × DataW H) → Nat
  | [] => 0
  | x :: r => uptoBulkEntry x + uptoBulkEntries r
def uptoBulkEntry {H : Type} : Lit × DataW H → Nat
  | (.string bytes, d) => bytes.length + uptoBulk d + 1
  | (_, d) => uptoBulk d + 1
 end
def uptoSmall : (H : Type) → List (DataW H) → Bool := fun _ ds => decide (uptoBulkAll ds ≤ 1048576)
def OpenSpec.upto (s : _root_.Go.ChangeSpec) : _root_.Go.OpenSpec := { _root_.Go.OpenSpec.ofChange s with cond := some uptoSmall }

/-- 'n005_68.FnChannelTypeNamesChannel', WHERE WHAT IT READS IS OF BULK AT MOST 1048576: true; the input reads as it did. -/
def fnChannelTypeNamesChannelUptoRow : OpenClaim := { program := "ytgnommaelahjlaadoor", sum := "41eef0c15fd5d8ecc2d7b4f2be8837a1d69ca15aac2a7704941def39e7b8bb23", func := "github.com/yuin/gopher-lua/n005_68.FnChannelTypeNamesChannel", spec := "fnChannelTypeNamesChannel", named := ["github.com/yuin/gopher-lua.lValueNames"], apart := false, laid := [("github.com/yuin/gopher-lua.lValueNames", laid_github_com_yuin_gopher_lua_lValueNames)], narrowed := true }
def FnChannelTypeNamesChannelUptoSaid : Prop := fnChannelTypeNamesChannelUptoRow.holds Tryd.pinned (OpenSpec.upto fnChannelTypeNamesChannelSpec)

end Rows
end Go.Proofs.YtgnommaelahjlaaDoor
