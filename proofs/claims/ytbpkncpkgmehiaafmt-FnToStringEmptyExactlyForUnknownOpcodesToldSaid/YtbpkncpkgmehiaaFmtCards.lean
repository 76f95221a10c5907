/-
  DERIVED. GIVEN WITH THE SEED: THE CARDS: each row of YtbpkncpkgmehiaaFmtRows.lean that lists a variable, with what it lists TIED to the program's text (the seventh form; the later family's looks); each row that meets fmt, with fmt's text TOLD by the authors' own Lean function (tested against real Go, not proved from fmt's source: count such statements apart). THE CARD IS WHAT COUNTS. Prove the row's statement (the work); the ties are given (YtbpkncpkgmehiaaFmtTie.lean); close each card by the builder's one call (the guide's Derived/Test/ToyasCard.lean, 'card_holds'). Laid BY PROGRAM, IN A SANDBOX (cutbox-door.mjs). By AI agents, Wed Nov 11 2026. No macro, syntax, notation, axiom, sorry.
-/
import Derived.Test.YtbpkncpkgmehiaaFmtRows
import GoSem.ClaimSeven
namespace Go.Proofs.YtbpkncpkgmehiaaFmt
namespace Rows

/-- THE TOLD AND TIED CARD OF 'n005_74.FnToStringEmptyExactlyForUnknownOpcodes'. -/
def fnToStringEmptyExactlyForUnknownOpcodesCard : Claim7 := { stood := { row := fnToStringEmptyExactlyForUnknownOpcodesRow, standIns := [], harness := (true, "3726d8fadd254f672d9bbb82af67721c4abbb822f7d91ac011e5842b179c075e"), looks := false }, told := true, laidByText := true, laidKinds := [.widerDeep], laidTests := true, laidLooks := .later, goes := false }
def FnToStringEmptyExactlyForUnknownOpcodesToldSaid : Prop := Claim7.holds Tryf.pinned (.plain (OpenSpec.ofChange fnToStringEmptyExactlyForUnknownOpcodesSpec)) fnToStringEmptyExactlyForUnknownOpcodesCard
/-- ITS FALSE NEIGHBOUR. Refute it at one input. -/
def FnToStringEmptyExactlyForUnknownOpcodesToldWrongFalsely : Prop := Claim7.holds Tryf.pinned (.plain (OpenSpec.ofChange fnToStringEmptyExactlyForUnknownOpcodesWrong)) fnToStringEmptyExactlyForUnknownOpcodesCard
end Rows
end Go.Proofs.YtbpkncpkgmehiaaFmt
