/-
  No cell of these rows narrows 'for every input' (looked for: loops, veiled, ifaces, maps, wideKeys, modest, calm, conditions, laid).
  DERIVED. THE GIVEN ROWS OF THIS SEAT. 5 by the template 'for every input the law returns true; each argument reads behind the call as it read before'; 0 by the template 'total and deterministic' (their statements: YtpkolfmdockdnaaTotals.lean).
  GIVEN WITH THE SEED: the statements are not yours to turn. If you find one false, say at which input.
  Laid BY PROGRAM, IN A SANDBOX (cutbox-rows.mjs): the forced cells as the released guide's own fill.sh prints them over the translation 33f1356053f42c60… (all of the seat's roots in one cut). By AI agents, Wed Nov 11 2026. No macro, syntax, notation, axiom, sorry.
-/
import Derived.Test.YtpkolfmdockdnaaChecked
import GoSem.Claim
import GoSem.ClaimJoined
import GoSem.ClaimMapViews
import Derived.JoinedTies
import Derived.KernelRfl
namespace Go.Proofs.Ytpkolfmdockdnaa
/- THE CELL 'sum', in the pinned program and in every row, IS THE sha256 OF THE DUMP (.gsa) THAT YtpkolfmdockdnaaProg.lean LOADS. Nothing in Lean hashes anything: it is a label: what it is worth is what the hold of that sum in a sandbox is worth. -/
noncomputable def Try.pinned : Pinned := { name := "ytpkolfmdockdnaa", sum := "33f1356053f42c6049dcea49e5dee7c5748b92e427b611294cac1d8d360efaaf", checked := Try.checked }
namespace Rows
def none {H : Type} : Left H := { results := [], args := [] }

/-- 'n005_54.FnNewFuncContextChildLabelsCountFromOne': WHATEVER THE INPUT: true; the input reads as it did. -/
def fnNewFuncContextChildLabelsCountFromOneSpec : ChangeSpec := { name := "fnNewFuncContextChildLabelsCountFromOne", fn := fun _ => fun
  | [d1, d2, d3, d4] => { results := [.lit (.bool true)], args := [d1, d2, d3, d4] }
  | _ => none }
def fnNewFuncContextChildLabelsCountFromOneRow : OpenClaim := { program := "ytpkolfmdockdnaa", sum := "33f1356053f42c6049dcea49e5dee7c5748b92e427b611294cac1d8d360efaaf", func := "github.com/yuin/gopher-lua/n005_54.FnNewFuncContextChildLabelsCountFromOne", spec := "fnNewFuncContextChildLabelsCountFromOne", unfollowed := true, recurses := true, apart := false }
def FnNewFuncContextChildLabelsCountFromOneSaid : Prop := fnNewFuncContextChildLabelsCountFromOneRow.holds Try.pinned (OpenSpec.ofChange fnNewFuncContextChildLabelsCountFromOneSpec)

/-- ITS FALSE NEIGHBOUR: 'it returns false'. Refute it at one input. -/
def fnNewFuncContextChildLabelsCountFromOneWrong : ChangeSpec := { name := "fnNewFuncContextChildLabelsCountFromOne", fn := fun _ => fun
  | [d1, d2, d3, d4] => { results := [.lit (.bool false)], args := [d1, d2, d3, d4] }
  | _ => none }
def FnNewFuncContextChildLabelsCountFromOneWrongFalsely : Prop := fnNewFuncContextChildLabelsCountFromOneRow.holds Try.pinned (OpenSpec.ofChange fnNewFuncContextChildLabelsCountFromOneWrong)

/-- 'n005_54.FnAddUnresolvedGotoContinuesAcrossBlocks': WHATEVER THE INPUT: true; the input reads as it did. -/
def fnAddUnresolvedGotoContinuesAcrossBlocksSpec : ChangeSpec := { name := "fnAddUnresolvedGotoContinuesAcrossBlocks", fn := fun _ => fun
  | [d1, d2] => { results := [.lit (.bool true)], args := [d1, d2] }
  | _ => none }
def fnAddUnresolvedGotoContinuesAcrossBlocksRow : OpenClaim := { program := "ytpkolfmdockdnaa", sum := "33f1356053f42c6049dcea49e5dee7c5748b92e427b611294cac1d8d360efaaf", func := "github.com/yuin/gopher-lua/n005_54.FnAddUnresolvedGotoContinuesAcrossBlocks", spec := "fnAddUnresolvedGotoContinuesAcrossBlocks", unfollowed := true, recurses := true, apart := false }
def FnAddUnresolvedGotoContinuesAcrossBlocksSaid : Prop := fnAddUnresolvedGotoContinuesAcrossBlocksRow.holds Try.pinned (OpenSpec.ofChange fnAddUnresolvedGotoContinuesAcrossBlocksSpec)

/-- ITS FALSE NEIGHBOUR: 'it returns false'. Refute it at one input. -/
def fnAddUnresolvedGotoContinuesAcrossBlocksWrong : ChangeSpec := { name := "fnAddUnresolvedGotoContinuesAcrossBlocks", fn := fun _ => fun
  | [d1, d2] => { results := [.lit (.bool false)], args := [d1, d2] }
  | _ => none }
def FnAddUnresolvedGotoContinuesAcrossBlocksWrongFalsely : Prop := fnAddUnresolvedGotoContinuesAcrossBlocksRow.holds Try.pinned (OpenSpec.ofChange fnAddUnresolvedGotoContinuesAcrossBlocksWrong)

/-- 'n005_54.FnLocalVarsCountIsSumOverChain': WHATEVER THE INPUT: true; the input reads as it did. -/
def fnLocalVarsCountIsSumOverChainSpec : ChangeSpec := { name := "fnLocalVarsCountIsSumOverChain", fn := fun _ => fun
  | [d] => { results := [.lit (.bool true)], args := [d] }
  | _ => none }
def fnLocalVarsCountIsSumOverChainRow : OpenClaim := { program := "ytpkolfmdockdnaa", sum := "33f1356053f42c6049dcea49e5dee7c5748b92e427b611294cac1d8d360efaaf", func := "github.com/yuin/gopher-lua/n005_54.FnLocalVarsCountIsSumOverChain", spec := "fnLocalVarsCountIsSumOverChain", unfollowed := true, recurses := true, apart := false }
def FnLocalVarsCountIsSumOverChainSaid : Prop := fnLocalVarsCountIsSumOverChainRow.holds Try.pinned (OpenSpec.ofChange fnLocalVarsCountIsSumOverChainSpec)

/-- ITS FALSE NEIGHBOUR: 'it returns false'. Refute it at one input. -/
def fnLocalVarsCountIsSumOverChainWrong : ChangeSpec := { name := "fnLocalVarsCountIsSumOverChain", fn := fun _ => fun
  | [d] => { results := [.lit (.bool false)], args := [d] }
  | _ => none }
def FnLocalVarsCountIsSumOverChainWrongFalsely : Prop := fnLocalVarsCountIsSumOverChainRow.holds Try.pinned (OpenSpec.ofChange fnLocalVarsCountIsSumOverChainWrong)

/-- 'n005_54.FnAddUnresolvedGotoNumbersInOrder': WHATEVER THE INPUT: true; the input reads as it did. -/
def fnAddUnresolvedGotoNumbersInOrderSpec : ChangeSpec := { name := "fnAddUnresolvedGotoNumbersInOrder", fn := fun _ => fun
  | [d] => { results := [.lit (.bool true)], args := [d] }
  | _ => none }
def fnAddUnresolvedGotoNumbersInOrderRow : OpenClaim := { program := "ytpkolfmdockdnaa", sum := "33f1356053f42c6049dcea49e5dee7c5748b92e427b611294cac1d8d360efaaf", func := "github.com/yuin/gopher-lua/n005_54.FnAddUnresolvedGotoNumbersInOrder", spec := "fnAddUnresolvedGotoNumbersInOrder", unfollowed := true, recurses := true, apart := false }
def FnAddUnresolvedGotoNumbersInOrderSaid : Prop := fnAddUnresolvedGotoNumbersInOrderRow.holds Try.pinned (OpenSpec.ofChange fnAddUnresolvedGotoNumbersInOrderSpec)

/-- ITS FALSE NEIGHBOUR: 'it returns false'. Refute it at one input. -/
def fnAddUnresolvedGotoNumbersInOrderWrong : ChangeSpec := { name := "fnAddUnresolvedGotoNumbersInOrder", fn := fun _ => fun
  | [d] => { results := [.lit (.bool false)], args := [d] }
  | _ => none }
def FnAddUnresolvedGotoNumbersInOrderWrongFalsely : Prop := fnAddUnresolvedGotoNumbersInOrderRow.holds Try.pinned (OpenSpec.ofChange fnAddUnresolvedGotoNumbersInOrderWrong)

/-- 'n005_54.FnLocalVarsCountLeafRegistration': WHATEVER THE INPUT: true; the input reads as it did. -/
def fnLocalVarsCountLeafRegistrationSpec : ChangeSpec := { name := "fnLocalVarsCountLeafRegistration", fn := fun _ => fun
  | [d1, d2] => { results := [.lit (.bool true)], args := [d1, d2] }
  | _ => none }
def fnLocalVarsCountLeafRegistrationRow : OpenClaim := { program := "ytpkolfmdockdnaa", sum := "33f1356053f42c6049dcea49e5dee7c5748b92e427b611294cac1d8d360efaaf", func := "github.com/yuin/gopher-lua/n005_54.FnLocalVarsCountLeafRegistration", spec := "fnLocalVarsCountLeafRegistration", unfollowed := true, recurses := true, apart := false }
def FnLocalVarsCountLeafRegistrationSaid : Prop := fnLocalVarsCountLeafRegistrationRow.holds Try.pinned (OpenSpec.ofChange fnLocalVarsCountLeafRegistrationSpec)

/-- ITS FALSE NEIGHBOUR: 'it returns false'. Refute it at one input. -/
def fnLocalVarsCountLeafRegistrationWrong : ChangeSpec := { name := "fnLocalVarsCountLeafRegistration", fn := fun _ => fun
  | [d1, d2] => { results := [.lit (.bool false)], args := [d1, d2] }
  | _ => none }
def FnLocalVarsCountLeafRegistrationWrongFalsely : Prop := fnLocalVarsCountLeafRegistrationRow.holds Try.pinned (OpenSpec.ofChange fnLocalVarsCountLeafRegistrationWrong)

/- THE SECOND FORM. 'bulk': how many values and letters a reading holds, each counted each time it is reached (what is shared counts as often as it is met; a slice's spare places count too). A statement '..UptoSaid' is the law's where the arguments, and the package variables that the reading takes, are together of bulk at most 1048576: NARROWER than '..Said'. Prove '..Said' where nothing that the law and all that it calls make is longer than what came in: it says more and counts as full. Else prove '..UptoSaid'. A law counts once. -/
mutual
def uptoBulk {H : Type} : DataW H → Nat
  | .lit (.string bytes) => bytes.length + 1
  | .lit _ => 1
  | .nil => 1
  | .ptr d => uptoBulk d + 1
  | .slice elems spare => uptoBulkAll elems + uptoBulkAll spare + 1
  | .agg parts => uptoBulkAll parts + 1
  | .iface _ d => uptoBulk d + 1
  | .map entries => uptoBulkEntries entries + 1
  | .held _ => 1
def uptoBulkAll {H : Type} : List (DataW H) → Nat
  | [] => 0
  | d :: r => uptoBulk d + uptoBulkAll r
def uptoBulkEntries {H : Type} : List (Lit × DataW H) → Nat
  | [] => 0
  | x :: r => uptoBulkEntry x + uptoBulkEntries r
def uptoBulkEntry {H : Type} : Lit × DataW H → Nat
  | (.string bytes, d) => bytes.length + uptoBulk d + 1
  | (_, d) => uptoBulk d + 1
 end
def uptoSmall : (H : Type) → List (DataW H) → Bool := fun _ ds => decide (uptoBulkAll ds ≤ 1048576)
def OpenSpec.upto (s : _root_.Go.ChangeSpec) : _root_.Go.OpenSpec := { _root_.Go.OpenSpec.ofChange s with cond := some uptoSmall }

/-- 'n005_54.FnNewFuncContextChildLabelsCountFromOne', WHERE WHAT IT READS IS OF BULK AT MOST 1048576: true; the input reads as it did. -/
def fnNewFuncContextChildLabelsCountFromOneUptoRow : OpenClaim := { program := "ytpkolfmdockdnaa", sum := "33f1356053f42c6049dcea49e5dee7c5748b92e427b611294cac1d8d360efaaf", func := "github.com/yuin/gopher-lua/n005_54.FnNewFuncContextChildLabelsCountFromOne", spec := "fnNewFuncContextChildLabelsCountFromOne", unfollowed := true, recurses := true, apart := false, narrowed := true }
def FnNewFuncContextChildLabelsCountFromOneUptoSaid : Prop := fnNewFuncContextChildLabelsCountFromOneUptoRow.holds Try.pinned (OpenSpec.upto fnNewFuncContextChildLabelsCountFromOneSpec)

/-- 'n005_54.FnAddUnresolvedGotoContinuesAcrossBlocks', WHERE WHAT IT READS IS OF BULK AT MOST 1048576: true; the input reads as it did. -/
def fnAddUnresolvedGotoContinuesAcrossBlocksUptoRow : OpenClaim := { program := "ytpkolfmdockdnaa", sum := "33f1356053f42c6049dcea49e5dee7c5748b92e427b611294cac1d8d360efaaf", func := "github.com/yuin/gopher-lua/n005_54.FnAddUnresolvedGotoContinuesAcrossBlocks", spec := "fnAddUnresolvedGotoContinuesAcrossBlocks", unfollowed := true, recurses := true, apart := false, narrowed := true }
def FnAddUnresolvedGotoContinuesAcrossBlocksUptoSaid : Prop := fnAddUnresolvedGotoContinuesAcrossBlocksUptoRow.holds Try.pinned (OpenSpec.upto fnAddUnresolvedGotoContinuesAcrossBlocksSpec)

/-- 'n005_54.FnLocalVarsCountIsSumOverChain', WHERE WHAT IT READS IS OF BULK AT MOST 1048576: true; the input reads as it did. -/
def fnLocalVarsCountIsSumOverChainUptoRow : OpenClaim := { program := "ytpkolfmdockdnaa", sum := "33f1356053f42c6049dcea49e5dee7c5748b92e427b611294cac1d8d360efaaf", func := "github.com/yuin/gopher-lua/n005_54.FnLocalVarsCountIsSumOverChain", spec := "fnLocalVarsCountIsSumOverChain", unfollowed := true, recurses := true, apart := false, narrowed := true }
def FnLocalVarsCountIsSumOverChainUptoSaid : Prop := fnLocalVarsCountIsSumOverChainUptoRow.holds Try.pinned (OpenSpec.upto fnLocalVarsCountIsSumOverChainSpec)

/-- 'n005_54.FnAddUnresolvedGotoNumbersInOrder', WHERE WHAT IT READS IS OF BULK AT MOST 1048576: true; the input reads as it did. -/
def fnAddUnresolvedGotoNumbersInOrderUptoRow : OpenClaim := { program := "ytpkolfmdockdnaa", sum := "33f1356053f42c6049dcea49e5dee7c5748b92e427b611294cac1d8d360efaaf", func := "github.com/yuin/gopher-lua/n005_54.FnAddUnresolvedGotoNumbersInOrder", spec := "fnAddUnresolvedGotoNumbersInOrder", unfollowed := true, recurses := true, apart := false, narrowed := true }
def FnAddUnresolvedGotoNumbersInOrderUptoSaid : Prop := fnAddUnresolvedGotoNumbersInOrderUptoRow.holds Try.pinned (OpenSpec.upto fnAddUnresolvedGotoNumbersInOrderSpec)

/-- 'n005_54.FnLocalVarsCountLeafRegistration', WHERE WHAT IT READS IS OF BULK AT MOST 1048576: true; the input reads as it did. -/
def fnLocalVarsCountLeafRegistrationUptoRow : OpenClaim := { program := "ytpkolfmdockdnaa", sum := "33f1356053f42c6049dcea49e5dee7c5748b92e427b611294cac1d8d360efaaf", func := "github.com/yuin/gopher-lua/n005_54.FnLocalVarsCountLeafRegistration", spec := "fnLocalVarsCountLeafRegistration", unfollowed := true, recurses := true, apart := false, narrowed := true }
def FnLocalVarsCountLeafRegistrationUptoSaid : Prop := fnLocalVarsCountLeafRegistrationUptoRow.holds Try.pinned (OpenSpec.upto fnLocalVarsCountLeafRegistrationSpec)

end Rows
end Go.Proofs.Ytpkolfmdockdnaa
