/- FnUserDataStringNilIsZeroAddress: for every input the law returns true, and its arguments read behind the call as they read before. Conditions: none beyond the row's own. -/
import Derived.Test.YtgnommaelahjlaaFmtUn
import Derived.Test.YtgnommaelahjlaaFmtCards
import Derived.Stop.JoinedAt
import Derived.Stop.JoinedTold
import Derived.SevenToldRow
namespace Go.Proofs.YtgnommaelahjlaaFmt.fnUserDataStringNilIsZeroAddress
open Go.ChangeShapes Go.WideShapes Go.ChangeAt Go.RowKit
open Go.ChangeMaps (open_string shut_string)
set_option linter.unusedVariables false

set_option maxRecDepth 100000 in
theorem lifted (os : Os) (started : os.Started) (H : Type) (enc : TypeId × Value → H) :
    ReturnsInTold Rows.fnUserDataStringNilIsZeroAddressRow.shortTexts Rows.fnUserDataStringNilIsZeroAddressRow.assume Tryf.checked os 4 .any Input.okWide ((OpenSpec.ofChange Rows.fnUserDataStringNilIsZeroAddressSpec).preRow enc Tryf.prog Tryf.f4 Rows.fnUserDataStringNilIsZeroAddressRow.domain Rows.fnUserDataStringNilIsZeroAddressRow.apart Rows.fnUserDataStringNilIsZeroAddressRow.laid) (fun F => ((OpenSpec.ofChange Rows.fnUserDataStringNilIsZeroAddressSpec).at F).post enc Tryf.prog Tryf.f4 Rows.fnUserDataStringNilIsZeroAddressRow.apart Rows.fnUserDataStringNilIsZeroAddressRow.fresh Rows.fnUserDataStringNilIsZeroAddressRow.handsOn Rows.fnUserDataStringNilIsZeroAddressRow.again) (aloneAtReturn Tryf.prog) nothingAlways := by
  refine returnsInTold_of_row (C := Tryf.checked) (s := OpenSpec.ofChange Rows.fnUserDataStringNilIsZeroAddressSpec) (by kernel_rfl) own started (by kernel_rfl) Tryf.func4
    (OpenSpec.witness_stopped (enc := enc) (C := Tryf.checked) false ⟨#[], #[], []⟩ 8 (by kernel_rfl) (by kernel_rfl) (by kernel_rfl) (by kernel_rfl)) ?_
  intro TT W base args ds gs before _ hF hval0 hW _ _ _ _ _
  have hval : ∀ (j : Nat) t v, Tryf.f4.params[j]? = some t → args[j]? = some v → Value.okWide Tryf.prog W .any base t v := hval0
  have hW' := hW
  obtain ⟨p, q, hA0, hV, rfl, hfz, hnd⟩ := hW
  have hA : DataW.TrodAll enc Tryf.prog W 0 (fun _ => true) true Tryf.f4.params.toList args.toList ds p := hA0
  rw [Tryf.params4] at hA hval
  obtain ⟨rfl, rfl, rfl⟩ := trodAll_none hA
  obtain ⟨rfl, rfl⟩ := trodVars_none hV
  clear hA0 hval0
  refine (walk TT  W  hF).mono fun e W' ⟨he, bel⟩ => ?_
  subst he
  exact ⟨_, rfl, _, _, _, [], _, [], hW', trodAll_mk1 (shut_bool Tryf.underlying4 _), trodAll_mk0, rfl, bel.frame _, fun h => by cases h⟩

theorem quiet (os : Os) : Stop.quiet Tryf.pinned.checked.prog os := by
  intro k hk
  rw [show Tryf.pinned.checked.prog.stopKnobs = [] by kernel_rfl] at hk
  cases hk

set_option maxRecDepth 100000 in
theorem over : Claim7.holds Tryf.pinned (.plain (OpenSpec.ofChange Rows.fnUserDataStringNilIsZeroAddressSpec)) (Claim7.toldRow Rows.fnUserDataStringNilIsZeroAddressRow (true, "b8e14d58281436b1f45ef6547728b45ddabfdc4d2a1dc2c4d92280071e0a17a6") false false) :=
  Claim7.holds_of_told_any 4 Tryf.f4 "fmt.Sprintf, its operands' methods called" [] [] _ _ _ (by kernel_rfl) rfl rfl rfl (by kernel_rfl) (by kernel_rfl) rfl ⟨rfl, rfl, rfl, rfl, rfl, rfl, rfl⟩ rfl rfl (by kernel_rfl) (by kernel_rfl) Tryf.func4 (by kernel_rfl)
    (of_decide_eq_true (by kernel_rfl)) (by unfold Func.isWrapper; first | (rw [if_pos (by decide +kernel)]; kernel_rfl) | (rw [if_neg (by decide +kernel)]; exact ⟨rfl, rfl⟩)) (by kernel_rfl) rfl (by kernel_rfl) (by kernel_rfl)
    (by kernel_rfl) (by kernel_rfl) (by kernel_rfl) (by kernel_rfl) (by kernel_rfl) (by kernel_rfl) (by kernel_rfl) (by kernel_rfl) (by kernel_rfl) rfl (by kernel_rfl) rfl rfl
    rfl rfl
    rfl (by kernel_rfl) (by kernel_rfl) (by kernel_rfl) (by decide) (by kernel_rfl)
    (OpenClaim.moreEntering_of (by kernel_rfl) (by kernel_rfl) (by kernel_rfl) (by kernel_rfl) (by kernel_rfl) (by kernel_rfl) (by kernel_rfl) (by kernel_rfl) (by kernel_rfl) (by kernel_rfl))
    ⟨_, WideRow.started_initial, quiet _⟩
    (fun os started _ H enc _ => lifted os started H enc)

theorem proved : Rows.FnUserDataStringNilIsZeroAddressToldSaid := over
#print axioms proved
end Go.Proofs.YtgnommaelahjlaaFmt.fnUserDataStringNilIsZeroAddress
