/-
  NARROWER THAN 'FOR EVERY INPUT', by the rows' own cells (each row's printed sentence says how): FnUserDataStringIdentity: laid.
  DERIVED. THE GIVEN ROWS OF THIS SEAT. 3 by the template 'for every input the law returns true; each argument reads behind the call as it read before'; 0 by the template 'total and deterministic' (their statements: YtgnommaelahjlaaFmtTotals.lean).
  GIVEN WITH THE SEED: the statements are not yours to turn. If you find one false, say at which input.
  Laid BY PROGRAM, IN A SANDBOX (cutbox-rows.mjs): the forced cells as the released guide's own fill.sh prints them over the translation 00cdb240bb28c625… (all of the seat's roots in one cut). By AI agents, Wed Nov 11 2026. No macro, syntax, notation, axiom, sorry.
-/
import Derived.Test.YtgnommaelahjlaaFmtChecked
import GoSem.Claim
import GoSem.ClaimJoined
import GoSem.ClaimMapViews
import Derived.JoinedTies
import Derived.KernelRfl
namespace Go.Proofs.YtgnommaelahjlaaFmt
/- THE CELL 'sum', in the pinned program and in every row, IS THE sha256 OF THE DUMP (.gsa) THAT YtgnommaelahjlaaFmtProg.lean LOADS. Nothing in Lean hashes anything: it is a label: what it is worth is what the hold of that sum in a sandbox is worth. -/
noncomputable def Tryf.pinned : Pinned := { name := "ytgnommaelahjlaafmt", sum := "00cdb240bb28c625f681669a96526a810cdc376bb5e2f119be2873cf786bc189", checked := Tryf.checked }
namespace Rows
def none {H : Type} : Left H := { results := [], args := [] }

/- WHAT THE LISTED PACKAGE-LEVEL VARIABLES READ AS WHEN THE CALL BEGINS. Each datum BY PROGRAM (the guide's laid-datum.mjs) off the statement by which the dump's own 'gosem.cut.vars' lays the variable. In a bare row this is a premise. The card (YtgnommaelahjlaaFmtCards.lean) ties it to the program's text. -/
def laid_github_com_yuin_gopher_lua_lValueNames {H : Type} : DataW H := .agg [.lit (.string [110, 105, 108]), .lit (.string [98, 111, 111, 108, 101, 97, 110]), .lit (.string [110, 117, 109, 98, 101, 114]), .lit (.string [115, 116, 114, 105, 110, 103]), .lit (.string [102, 117, 110, 99, 116, 105, 111, 110]), .lit (.string [117, 115, 101, 114, 100, 97, 116, 97]), .lit (.string [116, 104, 114, 101, 97, 100]), .lit (.string [116, 97, 98, 108, 101]), .lit (.string [99, 104, 97, 110, 110, 101, 108])]

/-- 'n005_52.FnChannelStringNilIsZeroAddress': WHATEVER THE INPUT: true; the input reads as it did. -/
def fnChannelStringNilIsZeroAddressSpec : ChangeSpec := { name := "fnChannelStringNilIsZeroAddress", fn := fun _ => fun
  | [] => { results := [.lit (.bool true)], args := [] }
  | _ => none }
def fnChannelStringNilIsZeroAddressRow : OpenClaim := { program := "ytgnommaelahjlaafmt", sum := "00cdb240bb28c625f681669a96526a810cdc376bb5e2f119be2873cf786bc189", func := "github.com/yuin/gopher-lua/n005_52.FnChannelStringNilIsZeroAddress", spec := "fnChannelStringNilIsZeroAddress", stops := ["fmt.Sprintf, its operands' methods called"], inPlace := ["fmt.Sprintf"], unfollowed := true, recurses := true, apart := false }
/-- NO THEOREM (fmt's text is open here; it may be false): for the released tool's asking of the row's closed facts alone. THE STATEMENT IS 'FnChannelStringNilIsZeroAddressToldSaid' (YtgnommaelahjlaaFmtCards.lean). -/
def FnChannelStringNilIsZeroAddressFormAsk : Prop := fnChannelStringNilIsZeroAddressRow.holds Tryf.pinned (OpenSpec.ofChange fnChannelStringNilIsZeroAddressSpec)

/-- ITS FALSE NEIGHBOUR: 'it returns false'. Refute it at one input. -/
def fnChannelStringNilIsZeroAddressWrong : ChangeSpec := { name := "fnChannelStringNilIsZeroAddress", fn := fun _ => fun
  | [] => { results := [.lit (.bool false)], args := [] }
  | _ => none }
def FnChannelStringNilIsZeroAddressWrongFormAsk : Prop := fnChannelStringNilIsZeroAddressRow.holds Tryf.pinned (OpenSpec.ofChange fnChannelStringNilIsZeroAddressWrong)

/-- 'n005_52.FnUserDataStringNilIsZeroAddress': WHATEVER THE INPUT: true; the input reads as it did. -/
def fnUserDataStringNilIsZeroAddressSpec : ChangeSpec := { name := "fnUserDataStringNilIsZeroAddress", fn := fun _ => fun
  | [] => { results := [.lit (.bool true)], args := [] }
  | _ => none }
def fnUserDataStringNilIsZeroAddressRow : OpenClaim := { program := "ytgnommaelahjlaafmt", sum := "00cdb240bb28c625f681669a96526a810cdc376bb5e2f119be2873cf786bc189", func := "github.com/yuin/gopher-lua/n005_52.FnUserDataStringNilIsZeroAddress", spec := "fnUserDataStringNilIsZeroAddress", stops := ["fmt.Sprintf, its operands' methods called"], inPlace := ["fmt.Sprintf"], unfollowed := true, recurses := true, apart := false }
/-- NO THEOREM (fmt's text is open here; it may be false): for the released tool's asking of the row's closed facts alone. THE STATEMENT IS 'FnUserDataStringNilIsZeroAddressToldSaid' (YtgnommaelahjlaaFmtCards.lean). -/
def FnUserDataStringNilIsZeroAddressFormAsk : Prop := fnUserDataStringNilIsZeroAddressRow.holds Tryf.pinned (OpenSpec.ofChange fnUserDataStringNilIsZeroAddressSpec)

/-- ITS FALSE NEIGHBOUR: 'it returns false'. Refute it at one input. -/
def fnUserDataStringNilIsZeroAddressWrong : ChangeSpec := { name := "fnUserDataStringNilIsZeroAddress", fn := fun _ => fun
  | [] => { results := [.lit (.bool false)], args := [] }
  | _ => none }
def FnUserDataStringNilIsZeroAddressWrongFormAsk : Prop := fnUserDataStringNilIsZeroAddressRow.holds Tryf.pinned (OpenSpec.ofChange fnUserDataStringNilIsZeroAddressWrong)

/-- 'n005_52.FnUserDataStringIdentity': WHATEVER THE INPUT: true; the input reads as it did. -/
def fnUserDataStringIdentitySpec : ChangeSpec := { name := "fnUserDataStringIdentity", vars := ["github.com/yuin/gopher-lua.lValueNames"], fn := fun _ => fun
  | [d, g1] => { results := [.lit (.bool true)], args := [d], vars := [g1] }
  | _ => none }
def fnUserDataStringIdentityRow : OpenClaim := { program := "ytgnommaelahjlaafmt", sum := "00cdb240bb28c625f681669a96526a810cdc376bb5e2f119be2873cf786bc189", func := "github.com/yuin/gopher-lua/n005_52.FnUserDataStringIdentity", spec := "fnUserDataStringIdentity", stops := ["fmt.Sprintf, its operands' methods called"], inPlace := ["fmt.Sprintf"], unfollowed := true, recurses := true, named := ["github.com/yuin/gopher-lua.lValueNames"], apart := false, laid := [("github.com/yuin/gopher-lua.lValueNames", laid_github_com_yuin_gopher_lua_lValueNames)] }
/-- NO THEOREM (fmt's text is open here; it may be false): for the released tool's asking of the row's closed facts alone. THE STATEMENT IS 'FnUserDataStringIdentityToldSaid' (YtgnommaelahjlaaFmtCards.lean). -/
def FnUserDataStringIdentityFormAsk : Prop := fnUserDataStringIdentityRow.holds Tryf.pinned (OpenSpec.ofChange fnUserDataStringIdentitySpec)

/-- ITS FALSE NEIGHBOUR: 'it returns false'. Refute it at one input. -/
def fnUserDataStringIdentityWrong : ChangeSpec := { name := "fnUserDataStringIdentity", vars := ["github.com/yuin/gopher-lua.lValueNames"], fn := fun _ => fun
  | [d, g1] => { results := [.lit (.bool false)], args := [d], vars := [g1] }
  | _ => none }
def FnUserDataStringIdentityWrongFormAsk : Prop := fnUserDataStringIdentityRow.holds Tryf.pinned (OpenSpec.ofChange fnUserDataStringIdentityWrong)

end Rows
end Go.Proofs.YtgnommaelahjlaaFmt
