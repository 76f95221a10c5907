/-
  DERIVED. GIVEN WITH THE SEED: THE CARDS: each row of YtgnommaelahjlaaFmtRows.lean that lists a variable, with what it lists TIED to the program's text (the seventh form; the later family's looks); each row that meets fmt, with fmt's text TOLD by the authors' own Lean function (tested against real Go, not proved from fmt's source: count such statements apart). THE CARD IS WHAT COUNTS. Prove the row's statement (the work); the ties are given (YtgnommaelahjlaaFmtTie.lean); close each card by the builder's one call (the guide's Derived/Test/ToyasCard.lean, 'card_holds'). Laid BY PROGRAM, IN A SANDBOX (cutbox-door.mjs). By AI agents, Wed Nov 11 2026. No macro, syntax, notation, axiom, sorry.
-/
import Derived.Test.YtgnommaelahjlaaFmtRows
import GoSem.ClaimSeven
namespace Go.Proofs.YtgnommaelahjlaaFmt
namespace Rows

/-- THE TOLD CARD OF 'n005_52.FnChannelStringNilIsZeroAddress'. -/
def fnChannelStringNilIsZeroAddressCard : Claim7 := { stood := { row := fnChannelStringNilIsZeroAddressRow, standIns := [], harness := (true, "b8e14d58281436b1f45ef6547728b45ddabfdc4d2a1dc2c4d92280071e0a17a6"), looks := false }, told := true, goes := false }
def FnChannelStringNilIsZeroAddressToldSaid : Prop := Claim7.holds Tryf.pinned (.plain (OpenSpec.ofChange fnChannelStringNilIsZeroAddressSpec)) fnChannelStringNilIsZeroAddressCard
/-- ITS FALSE NEIGHBOUR. Refute it at one input. -/
def FnChannelStringNilIsZeroAddressToldWrongFalsely : Prop := Claim7.holds Tryf.pinned (.plain (OpenSpec.ofChange fnChannelStringNilIsZeroAddressWrong)) fnChannelStringNilIsZeroAddressCard

/-- THE TOLD CARD OF 'n005_52.FnUserDataStringNilIsZeroAddress'. -/
def fnUserDataStringNilIsZeroAddressCard : Claim7 := { stood := { row := fnUserDataStringNilIsZeroAddressRow, standIns := [], harness := (true, "b8e14d58281436b1f45ef6547728b45ddabfdc4d2a1dc2c4d92280071e0a17a6"), looks := false }, told := true, goes := false }
def FnUserDataStringNilIsZeroAddressToldSaid : Prop := Claim7.holds Tryf.pinned (.plain (OpenSpec.ofChange fnUserDataStringNilIsZeroAddressSpec)) fnUserDataStringNilIsZeroAddressCard
/-- ITS FALSE NEIGHBOUR. Refute it at one input. -/
def FnUserDataStringNilIsZeroAddressToldWrongFalsely : Prop := Claim7.holds Tryf.pinned (.plain (OpenSpec.ofChange fnUserDataStringNilIsZeroAddressWrong)) fnUserDataStringNilIsZeroAddressCard

/-- THE TOLD AND TIED CARD OF 'n005_52.FnUserDataStringIdentity'. -/
def fnUserDataStringIdentityCard : Claim7 := { stood := { row := fnUserDataStringIdentityRow, standIns := [], harness := (true, "b8e14d58281436b1f45ef6547728b45ddabfdc4d2a1dc2c4d92280071e0a17a6"), looks := false }, told := true, laidByText := true, laidKinds := [.data], laidTests := true, laidLooks := .later, goes := false }
def FnUserDataStringIdentityToldSaid : Prop := Claim7.holds Tryf.pinned (.plain (OpenSpec.ofChange fnUserDataStringIdentitySpec)) fnUserDataStringIdentityCard
/-- ITS FALSE NEIGHBOUR. Refute it at one input. -/
def FnUserDataStringIdentityToldWrongFalsely : Prop := Claim7.holds Tryf.pinned (.plain (OpenSpec.ofChange fnUserDataStringIdentityWrong)) fnUserDataStringIdentityCard
end Rows
end Go.Proofs.YtgnommaelahjlaaFmt
