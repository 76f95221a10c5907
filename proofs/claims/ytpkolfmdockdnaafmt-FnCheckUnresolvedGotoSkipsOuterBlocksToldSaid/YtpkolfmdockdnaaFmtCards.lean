/-
  DERIVED. GIVEN WITH THE SEED: THE CARDS: each row of YtpkolfmdockdnaaFmtRows.lean that lists a variable, with what it lists TIED to the program's text (the seventh form; the later family's looks); each row that meets fmt, with fmt's text TOLD by the authors' own Lean function (tested against real Go, not proved from fmt's source: count such statements apart). THE CARD IS WHAT COUNTS. Prove the row's statement (the work); the ties are given (YtpkolfmdockdnaaFmtTie.lean); close each card by the builder's one call (the guide's Derived/Test/ToyasCard.lean, 'card_holds'). Laid BY PROGRAM, IN A SANDBOX (cutbox-door.mjs). By AI agents, Wed Nov 11 2026. No macro, syntax, notation, axiom, sorry.
-/
import Derived.Test.YtpkolfmdockdnaaFmtRows
import GoSem.ClaimSeven
namespace Go.Proofs.YtpkolfmdockdnaaFmt
namespace Rows

/-- THE TOLD CARD OF 'n005_54.FnCheckUnresolvedGotoSkipsOuterBlocks'. -/
def fnCheckUnresolvedGotoSkipsOuterBlocksCard : Claim7 := { stood := { row := fnCheckUnresolvedGotoSkipsOuterBlocksRow, standIns := [], harness := (true, "b6d2da22319049aea381d8c9797f35dc4781aae88ef09c58c7f23025e81d0e75"), looks := false }, told := true, goes := false }
def FnCheckUnresolvedGotoSkipsOuterBlocksToldSaid : Prop := Claim7.holds Tryf.pinned (.plain (OpenSpec.ofChange fnCheckUnresolvedGotoSkipsOuterBlocksSpec)) fnCheckUnresolvedGotoSkipsOuterBlocksCard
/-- ITS FALSE NEIGHBOUR. Refute it at one input. -/
def FnCheckUnresolvedGotoSkipsOuterBlocksToldWrongFalsely : Prop := Claim7.holds Tryf.pinned (.plain (OpenSpec.ofChange fnCheckUnresolvedGotoSkipsOuterBlocksWrong)) fnCheckUnresolvedGotoSkipsOuterBlocksCard
end Rows
end Go.Proofs.YtpkolfmdockdnaaFmt
