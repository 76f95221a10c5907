/-
  No cell of these rows narrows 'for every input' (looked for: loops, veiled, ifaces, maps, wideKeys, modest, calm, conditions, laid).
  DERIVED. THE GIVEN ROWS OF THIS SEAT. 4 by the template 'for every input the law returns true; each argument reads behind the call as it read before'; 0 by the template 'total and deterministic' (their statements: YticnfohoddlolaaFmtTotals.lean).
  GIVEN WITH THE SEED: the statements are not yours to turn. If you find one false, say at which input.
  Laid BY PROGRAM, IN A SANDBOX (cutbox-rows.mjs): the forced cells as the released guide's own fill.sh prints them over the translation 9fd923196a3406df… (all of the seat's roots in one cut). By AI agents, Wed Nov 11 2026. No macro, syntax, notation, axiom, sorry.
-/
import Derived.Test.YticnfohoddlolaaFmtChecked
import GoSem.Claim
import GoSem.ClaimJoined
import GoSem.ClaimMapViews
import Derived.JoinedTies
import Derived.KernelRfl
namespace Go.Proofs.YticnfohoddlolaaFmt
/- THE CELL 'sum', in the pinned program and in every row, IS THE sha256 OF THE DUMP (.gsa) THAT YticnfohoddlolaaFmtProg.lean LOADS. Nothing in Lean hashes anything: it is a label: what it is worth is what the hold of that sum in a sandbox is worth. -/
noncomputable def Tryf.pinned : Pinned := { name := "yticnfohoddlolaafmt", sum := "9fd923196a3406df67a5093de6ff23d3c4058e8650b79bf4571e4e700c42f64d", checked := Tryf.checked }
namespace Rows
def none {H : Type} : Left H := { results := [], args := [] }

/-- 'n005_43.FnLeaveBlockAgreesWithCloseThenEndScope': WHATEVER THE INPUT: true; the input reads as it did. -/
def fnLeaveBlockAgreesWithCloseThenEndScopeSpec : ChangeSpec := { name := "fnLeaveBlockAgreesWithCloseThenEndScope", fn := fun _ => fun
  | [d1, d2, d3, d4, d5, d6, d7] => { results := [.lit (.bool true)], args := [d1, d2, d3, d4, d5, d6, d7] }
  | _ => none }
def fnLeaveBlockAgreesWithCloseThenEndScopeRow : OpenClaim := { program := "yticnfohoddlolaafmt", sum := "9fd923196a3406df67a5093de6ff23d3c4058e8650b79bf4571e4e700c42f64d", func := "github.com/yuin/gopher-lua/n005_43.FnLeaveBlockAgreesWithCloseThenEndScope", spec := "fnLeaveBlockAgreesWithCloseThenEndScope", stops := ["fmt.Sprintf, its operands' methods called"], inPlace := ["fmt.Sprintf"], unfollowed := true, recurses := true, apart := false }
/-- NO THEOREM (fmt's text is open here; it may be false): for the released tool's asking of the row's closed facts alone. THE STATEMENT IS 'FnLeaveBlockAgreesWithCloseThenEndScopeToldSaid' (YticnfohoddlolaaFmtCards.lean). -/
def FnLeaveBlockAgreesWithCloseThenEndScopeFormAsk : Prop := fnLeaveBlockAgreesWithCloseThenEndScopeRow.holds Tryf.pinned (OpenSpec.ofChange fnLeaveBlockAgreesWithCloseThenEndScopeSpec)

/-- ITS FALSE NEIGHBOUR: 'it returns false'. Refute it at one input. -/
def fnLeaveBlockAgreesWithCloseThenEndScopeWrong : ChangeSpec := { name := "fnLeaveBlockAgreesWithCloseThenEndScope", fn := fun _ => fun
  | [d1, d2, d3, d4, d5, d6, d7] => { results := [.lit (.bool false)], args := [d1, d2, d3, d4, d5, d6, d7] }
  | _ => none }
def FnLeaveBlockAgreesWithCloseThenEndScopeWrongFormAsk : Prop := fnLeaveBlockAgreesWithCloseThenEndScopeRow.holds Tryf.pinned (OpenSpec.ofChange fnLeaveBlockAgreesWithCloseThenEndScopeWrong)

/-- 'n005_43.FnSetRegTopAcceptsAndStores': WHATEVER THE INPUT: true; the input reads as it did. -/
def fnSetRegTopAcceptsAndStoresSpec : ChangeSpec := { name := "fnSetRegTopAcceptsAndStores", fn := fun _ => fun
  | [d1, d2] => { results := [.lit (.bool true)], args := [d1, d2] }
  | _ => none }
def fnSetRegTopAcceptsAndStoresRow : OpenClaim := { program := "yticnfohoddlolaafmt", sum := "9fd923196a3406df67a5093de6ff23d3c4058e8650b79bf4571e4e700c42f64d", func := "github.com/yuin/gopher-lua/n005_43.FnSetRegTopAcceptsAndStores", spec := "fnSetRegTopAcceptsAndStores", stops := ["fmt.Sprintf, its operands' methods called"], inPlace := ["fmt.Sprintf"], unfollowed := true, recurses := true, apart := false }
/-- NO THEOREM (fmt's text is open here; it may be false): for the released tool's asking of the row's closed facts alone. THE STATEMENT IS 'FnSetRegTopAcceptsAndStoresToldSaid' (YticnfohoddlolaaFmtCards.lean). -/
def FnSetRegTopAcceptsAndStoresFormAsk : Prop := fnSetRegTopAcceptsAndStoresRow.holds Tryf.pinned (OpenSpec.ofChange fnSetRegTopAcceptsAndStoresSpec)

/-- ITS FALSE NEIGHBOUR: 'it returns false'. Refute it at one input. -/
def fnSetRegTopAcceptsAndStoresWrong : ChangeSpec := { name := "fnSetRegTopAcceptsAndStores", fn := fun _ => fun
  | [d1, d2] => { results := [.lit (.bool false)], args := [d1, d2] }
  | _ => none }
def FnSetRegTopAcceptsAndStoresWrongFormAsk : Prop := fnSetRegTopAcceptsAndStoresRow.holds Tryf.pinned (OpenSpec.ofChange fnSetRegTopAcceptsAndStoresWrong)

/-- 'n005_43.FnLeaveBlockExact': WHATEVER THE INPUT: true; the input reads as it did. -/
def fnLeaveBlockExactSpec : ChangeSpec := { name := "fnLeaveBlockExact", fn := fun _ => fun
  | [d1, d2, d3, d4, d5, d6, d7, d8] => { results := [.lit (.bool true)], args := [d1, d2, d3, d4, d5, d6, d7, d8] }
  | _ => none }
def fnLeaveBlockExactRow : OpenClaim := { program := "yticnfohoddlolaafmt", sum := "9fd923196a3406df67a5093de6ff23d3c4058e8650b79bf4571e4e700c42f64d", func := "github.com/yuin/gopher-lua/n005_43.FnLeaveBlockExact", spec := "fnLeaveBlockExact", stops := ["fmt.Sprintf, its operands' methods called"], inPlace := ["fmt.Sprintf"], unfollowed := true, recurses := true, apart := false }
/-- NO THEOREM (fmt's text is open here; it may be false): for the released tool's asking of the row's closed facts alone. THE STATEMENT IS 'FnLeaveBlockExactToldSaid' (YticnfohoddlolaaFmtCards.lean). -/
def FnLeaveBlockExactFormAsk : Prop := fnLeaveBlockExactRow.holds Tryf.pinned (OpenSpec.ofChange fnLeaveBlockExactSpec)

/-- ITS FALSE NEIGHBOUR: 'it returns false'. Refute it at one input. -/
def fnLeaveBlockExactWrong : ChangeSpec := { name := "fnLeaveBlockExact", fn := fun _ => fun
  | [d1, d2, d3, d4, d5, d6, d7, d8] => { results := [.lit (.bool false)], args := [d1, d2, d3, d4, d5, d6, d7, d8] }
  | _ => none }
def FnLeaveBlockExactWrongFormAsk : Prop := fnLeaveBlockExactRow.holds Tryf.pinned (OpenSpec.ofChange fnLeaveBlockExactWrong)

/-- 'n005_43.FnSetRegTopScriptLastWriteWins': WHATEVER THE INPUT: true; the input reads as it did. -/
def fnSetRegTopScriptLastWriteWinsSpec : ChangeSpec := { name := "fnSetRegTopScriptLastWriteWins", fn := fun _ => fun
  | [d1, d2] => { results := [.lit (.bool true)], args := [d1, d2] }
  | _ => none }
def fnSetRegTopScriptLastWriteWinsRow : OpenClaim := { program := "yticnfohoddlolaafmt", sum := "9fd923196a3406df67a5093de6ff23d3c4058e8650b79bf4571e4e700c42f64d", func := "github.com/yuin/gopher-lua/n005_43.FnSetRegTopScriptLastWriteWins", spec := "fnSetRegTopScriptLastWriteWins", stops := ["fmt.Sprintf, its operands' methods called"], inPlace := ["fmt.Sprintf"], unfollowed := true, recurses := true, apart := false }
/-- NO THEOREM (fmt's text is open here; it may be false): for the released tool's asking of the row's closed facts alone. THE STATEMENT IS 'FnSetRegTopScriptLastWriteWinsToldSaid' (YticnfohoddlolaaFmtCards.lean). -/
def FnSetRegTopScriptLastWriteWinsFormAsk : Prop := fnSetRegTopScriptLastWriteWinsRow.holds Tryf.pinned (OpenSpec.ofChange fnSetRegTopScriptLastWriteWinsSpec)

/-- ITS FALSE NEIGHBOUR: 'it returns false'. Refute it at one input. -/
def fnSetRegTopScriptLastWriteWinsWrong : ChangeSpec := { name := "fnSetRegTopScriptLastWriteWins", fn := fun _ => fun
  | [d1, d2] => { results := [.lit (.bool false)], args := [d1, d2] }
  | _ => none }
def FnSetRegTopScriptLastWriteWinsWrongFormAsk : Prop := fnSetRegTopScriptLastWriteWinsRow.holds Tryf.pinned (OpenSpec.ofChange fnSetRegTopScriptLastWriteWinsWrong)

end Rows
end Go.Proofs.YticnfohoddlolaaFmt
