/-
  DERIVED. GIVEN WITH THE SEED: THE CARDS: each row of YtgnommaelahjlaaDoorRows.lean that lists a variable, with what it lists TIED to the program's text (the seventh form; the later family's looks); each row that meets fmt, with fmt's text TOLD by the authors' own Lean function (tested against real Go, not proved from fmt's source: count such statements apart). THE CARD IS WHAT COUNTS. Prove the row's statement (the work); the ties are given (YtgnommaelahjlaaDoorTie.lean); close each card by the builder's one call (the guide's Derived/Test/ToyasCard.lean, 'card_holds'). Laid BY PROGRAM, IN A SANDBOX (cutbox-door.mjs). By AI agents, Wed Nov 11 2026. No macro, syntax, notation, axiom, sorry.
-/
import Derived.Test.YtgnommaelahjlaaDoorRows
import GoSem.ClaimSeven
namespace Go.Proofs.YtgnommaelahjlaaDoor
namespace Rows

/-- THE TIED CARD OF 'n005_68.FnChannelTypeNamesChannel'. -/
def fnChannelTypeNamesChannelCard : Claim7 := { stood := { row := fnChannelTypeNamesChannelRow, standIns := [], harness := (true, "c5dcfb71525c0e1e04e9cc11ddd0bf09b03c973236ac2e62cf10185d6e676db6"), looks := false }, kinds := [], alts := [], laidByText := true, laidKinds := [.data], laidTests := true, laidLooks := .later }
def FnChannelTypeNamesChannelCardSaid : Prop := Claim7.holds Tryd.pinned (.plain (OpenSpec.ofChange fnChannelTypeNamesChannelSpec)) fnChannelTypeNamesChannelCard

/-- THE SECOND FORM's CARD OF 'n005_68.FnChannelTypeNamesChannel'. -/
def fnChannelTypeNamesChannelUptoCard : Claim7 := { stood := { row := fnChannelTypeNamesChannelUptoRow, standIns := [], harness := (true, "c5dcfb71525c0e1e04e9cc11ddd0bf09b03c973236ac2e62cf10185d6e676db6"), looks := false }, kinds := [], alts := [], laidByText := true, laidKinds := [.data], laidTests := true, laidLooks := .later }
def FnChannelTypeNamesChannelUptoCardSaid : Prop := Claim7.holds Tryd.pinned (.plain (OpenSpec.upto fnChannelTypeNamesChannelSpec)) fnChannelTypeNamesChannelUptoCard
end Rows
end Go.Proofs.YtgnommaelahjlaaDoor
