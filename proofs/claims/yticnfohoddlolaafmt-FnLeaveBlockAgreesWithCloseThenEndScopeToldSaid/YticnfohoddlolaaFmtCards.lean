/-
  DERIVED. GIVEN WITH THE SEED: THE CARDS: each row of YticnfohoddlolaaFmtRows.lean that lists a variable, with what it lists TIED to the program's text (the seventh form; the later family's looks); each row that meets fmt, with fmt's text TOLD by the authors' own Lean function (tested against real Go, not proved from fmt's source: count such statements apart). THE CARD IS WHAT COUNTS. Prove the row's statement (the work); the ties are given (YticnfohoddlolaaFmtTie.lean); close each card by the builder's one call (the guide's Derived/Test/ToyasCard.lean, 'card_holds'). Laid BY PROGRAM, IN A SANDBOX (cutbox-door.mjs). By AI agents, Wed Nov 11 2026. No macro, syntax, notation, axiom, sorry.
-/
import Derived.Test.YticnfohoddlolaaFmtRows
import GoSem.ClaimSeven
namespace Go.Proofs.YticnfohoddlolaaFmt
namespace Rows

/-- THE TOLD CARD OF 'n005_43.FnLeaveBlockAgreesWithCloseThenEndScope'. -/
def fnLeaveBlockAgreesWithCloseThenEndScopeCard : Claim7 := { stood := { row := fnLeaveBlockAgreesWithCloseThenEndScopeRow, standIns := [], harness := (true, "fa34a30a9a2c3d19ba1de901acce4f7df156e06dedf62fb4ba16582f43b958bb"), looks := false }, told := true, goes := false }
def FnLeaveBlockAgreesWithCloseThenEndScopeToldSaid : Prop := Claim7.holds Tryf.pinned (.plain (OpenSpec.ofChange fnLeaveBlockAgreesWithCloseThenEndScopeSpec)) fnLeaveBlockAgreesWithCloseThenEndScopeCard
/-- ITS FALSE NEIGHBOUR. Refute it at one input. -/
def FnLeaveBlockAgreesWithCloseThenEndScopeToldWrongFalsely : Prop := Claim7.holds Tryf.pinned (.plain (OpenSpec.ofChange fnLeaveBlockAgreesWithCloseThenEndScopeWrong)) fnLeaveBlockAgreesWithCloseThenEndScopeCard

/-- THE TOLD CARD OF 'n005_43.FnSetRegTopAcceptsAndStores'. -/
def fnSetRegTopAcceptsAndStoresCard : Claim7 := { stood := { row := fnSetRegTopAcceptsAndStoresRow, standIns := [], harness := (true, "fa34a30a9a2c3d19ba1de901acce4f7df156e06dedf62fb4ba16582f43b958bb"), looks := false }, told := true, goes := false }
def FnSetRegTopAcceptsAndStoresToldSaid : Prop := Claim7.holds Tryf.pinned (.plain (OpenSpec.ofChange fnSetRegTopAcceptsAndStoresSpec)) fnSetRegTopAcceptsAndStoresCard
/-- ITS FALSE NEIGHBOUR. Refute it at one input. -/
def FnSetRegTopAcceptsAndStoresToldWrongFalsely : Prop := Claim7.holds Tryf.pinned (.plain (OpenSpec.ofChange fnSetRegTopAcceptsAndStoresWrong)) fnSetRegTopAcceptsAndStoresCard

/-- THE TOLD CARD OF 'n005_43.FnLeaveBlockExact'. -/
def fnLeaveBlockExactCard : Claim7 := { stood := { row := fnLeaveBlockExactRow, standIns := [], harness := (true, "fa34a30a9a2c3d19ba1de901acce4f7df156e06dedf62fb4ba16582f43b958bb"), looks := false }, told := true, goes := false }
def FnLeaveBlockExactToldSaid : Prop := Claim7.holds Tryf.pinned (.plain (OpenSpec.ofChange fnLeaveBlockExactSpec)) fnLeaveBlockExactCard
/-- ITS FALSE NEIGHBOUR. Refute it at one input. -/
def FnLeaveBlockExactToldWrongFalsely : Prop := Claim7.holds Tryf.pinned (.plain (OpenSpec.ofChange fnLeaveBlockExactWrong)) fnLeaveBlockExactCard

/-- THE TOLD CARD OF 'n005_43.FnSetRegTopScriptLastWriteWins'. -/
def fnSetRegTopScriptLastWriteWinsCard : Claim7 := { stood := { row := fnSetRegTopScriptLastWriteWinsRow, standIns := [], harness := (true, "fa34a30a9a2c3d19ba1de901acce4f7df156e06dedf62fb4ba16582f43b958bb"), looks := false }, told := true, goes := false }
def FnSetRegTopScriptLastWriteWinsToldSaid : Prop := Claim7.holds Tryf.pinned (.plain (OpenSpec.ofChange fnSetRegTopScriptLastWriteWinsSpec)) fnSetRegTopScriptLastWriteWinsCard
/-- ITS FALSE NEIGHBOUR. Refute it at one input. -/
def FnSetRegTopScriptLastWriteWinsToldWrongFalsely : Prop := Claim7.holds Tryf.pinned (.plain (OpenSpec.ofChange fnSetRegTopScriptLastWriteWinsWrong)) fnSetRegTopScriptLastWriteWinsCard
end Rows
end Go.Proofs.YticnfohoddlolaaFmt
