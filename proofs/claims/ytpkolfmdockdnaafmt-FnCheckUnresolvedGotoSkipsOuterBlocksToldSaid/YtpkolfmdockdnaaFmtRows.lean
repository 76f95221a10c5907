/-
  No cell of these rows narrows 'for every input' (looked for: loops, veiled, ifaces, maps, wideKeys, modest, calm, conditions, laid).
  DERIVED. THE GIVEN ROWS OF THIS SEAT. 1 by the template 'for every input the law returns true; each argument reads behind the call as it read before'; 0 by the template 'total and deterministic' (their statements: YtpkolfmdockdnaaFmtTotals.lean).
  GIVEN WITH THE SEED: the statements are not yours to turn. If you find one false, say at which input.
  Laid BY PROGRAM, IN A SANDBOX (cutbox-rows.mjs): the forced cells as the released guide's own fill.sh prints them over the translation bb3c497811c32b3e… (all of the seat's roots in one cut). By AI agents, Wed Nov 11 2026. No macro, syntax, notation, axiom, sorry.
-/
import Derived.Test.YtpkolfmdockdnaaFmtChecked
import GoSem.Claim
import GoSem.ClaimJoined
import GoSem.ClaimMapViews
import Derived.JoinedTies
import Derived.KernelRfl
namespace Go.Proofs.YtpkolfmdockdnaaFmt
/- THE CELL 'sum', in the pinned program and in every row, IS THE sha256 OF THE DUMP (.gsa) THAT YtpkolfmdockdnaaFmtProg.lean LOADS. Nothing in Lean hashes anything: it is a label: what it is worth is what the hold of that sum in a sandbox is worth. -/
noncomputable def Tryf.pinned : Pinned := { name := "ytpkolfmdockdnaafmt", sum := "bb3c497811c32b3e47f67edf917dea49d26fc67e9c35431ee508fa4f175a81a4", checked := Tryf.checked }
namespace Rows
def none {H : Type} : Left H := { results := [], args := [] }

/-- 'n005_54.FnCheckUnresolvedGotoSkipsOuterBlocks': WHATEVER THE INPUT: true; the input reads as it did. -/
def fnCheckUnresolvedGotoSkipsOuterBlocksSpec : ChangeSpec := { name := "fnCheckUnresolvedGotoSkipsOuterBlocks", fn := fun _ => fun
  | [d] => { results := [.lit (.bool true)], args := [d] }
  | _ => none }
def fnCheckUnresolvedGotoSkipsOuterBlocksRow : OpenClaim := { program := "ytpkolfmdockdnaafmt", sum := "bb3c497811c32b3e47f67edf917dea49d26fc67e9c35431ee508fa4f175a81a4", func := "github.com/yuin/gopher-lua/n005_54.FnCheckUnresolvedGotoSkipsOuterBlocks", spec := "fnCheckUnresolvedGotoSkipsOuterBlocks", stops := ["fmt.Sprintf, its operands' methods called"], inPlace := ["fmt.Sprintf"], unfollowed := true, recurses := true, apart := false }
/-- NO THEOREM (fmt's text is open here; it may be false): for the released tool's asking of the row's closed facts alone. THE STATEMENT IS 'FnCheckUnresolvedGotoSkipsOuterBlocksToldSaid' (YtpkolfmdockdnaaFmtCards.lean). -/
def FnCheckUnresolvedGotoSkipsOuterBlocksFormAsk : Prop := fnCheckUnresolvedGotoSkipsOuterBlocksRow.holds Tryf.pinned (OpenSpec.ofChange fnCheckUnresolvedGotoSkipsOuterBlocksSpec)

/-- ITS FALSE NEIGHBOUR: 'it returns false'. Refute it at one input. -/
def fnCheckUnresolvedGotoSkipsOuterBlocksWrong : ChangeSpec := { name := "fnCheckUnresolvedGotoSkipsOuterBlocks", fn := fun _ => fun
  | [d] => { results := [.lit (.bool false)], args := [d] }
  | _ => none }
def FnCheckUnresolvedGotoSkipsOuterBlocksWrongFormAsk : Prop := fnCheckUnresolvedGotoSkipsOuterBlocksRow.holds Tryf.pinned (OpenSpec.ofChange fnCheckUnresolvedGotoSkipsOuterBlocksWrong)

end Rows
end Go.Proofs.YtpkolfmdockdnaaFmt
