/- FnSetRegTopAcceptsAndStores: for every input the law returns true, and its arguments read behind the call as they read before. Conditions: none beyond the row's own. -/
import Derived.Test.YticnfohoddlolaaFmtSr1
import Derived.Test.YticnfohoddlolaaFmtCards
import Derived.Stop.JoinedAt
import Derived.Stop.JoinedTold
import Derived.SevenToldRow
namespace Go.Proofs.YticnfohoddlolaaFmt.fnSetRegTopAcceptsAndStores
open Go.ChangeShapes Go.WideShapes Go.ChangeAt Go.RowKit
open Go.ChangeMaps (open_string shut_string)
set_option linter.unusedVariables false

set_option maxRecDepth 100000 in
theorem lifted (os : Os) (started : os.Started) (H : Type) (enc : TypeId × Value → H) :
    ReturnsInTold Rows.fnSetRegTopAcceptsAndStoresRow.shortTexts Rows.fnSetRegTopAcceptsAndStoresRow.assume Tryf.checked os 4 .any Input.okWide ((OpenSpec.ofChange Rows.fnSetRegTopAcceptsAndStoresSpec).preRow enc Tryf.prog Tryf.f4 Rows.fnSetRegTopAcceptsAndStoresRow.domain Rows.fnSetRegTopAcceptsAndStoresRow.apart Rows.fnSetRegTopAcceptsAndStoresRow.laid) (fun F => ((OpenSpec.ofChange Rows.fnSetRegTopAcceptsAndStoresSpec).at F).post enc Tryf.prog Tryf.f4 Rows.fnSetRegTopAcceptsAndStoresRow.apart Rows.fnSetRegTopAcceptsAndStoresRow.fresh Rows.fnSetRegTopAcceptsAndStoresRow.handsOn Rows.fnSetRegTopAcceptsAndStoresRow.again) (aloneAtReturn Tryf.prog) nothingAlways := by
  refine returnsInTold_of_row (C := Tryf.checked) (s := OpenSpec.ofChange Rows.fnSetRegTopAcceptsAndStoresSpec) (by kernel_rfl) own started (by kernel_rfl) Tryf.func4
    (OpenSpec.witness_stopped (enc := enc) (C := Tryf.checked) false ⟨#[], #[.int .i64 0, .int .i64 0], []⟩ 8 (by kernel_rfl) (by kernel_rfl) (by kernel_rfl) (by kernel_rfl)) ?_
  intro TT W base args ds gs before _ hF hval0 hW _ _ _ _ _
  have hval : ∀ (j : Nat) t v, Tryf.f4.params[j]? = some t → args[j]? = some v → Value.okWide Tryf.prog W .any base t v := hval0
  have hW' := hW
  obtain ⟨p, q, hA0, hV, rfl, hfz, hnd⟩ := hW
  have hA : DataW.TrodAll enc Tryf.prog W 0 (fun _ => true) true Tryf.f4.params.toList args.toList ds p := hA0
  rw [Tryf.params4] at hA hval
  obtain ⟨v0, vs0, d0, ds0, p0, q0, hargs, rfl, rfl, h0, t0⟩ := trodAll_cons hA
  obtain ⟨v1, vs1, d1, ds1, p1, q1, rfl, rfl, rfl, h1, t1⟩ := trodAll_cons t0
  obtain ⟨rfl, rfl, rfl⟩ := trodAll_nil t1
  obtain rfl : args = #[v0, v1] := by cases args; simp_all
  obtain ⟨rfl, rfl⟩ := trodVars_none hV
  obtain ⟨a0, rfl, rfl, rfl, w0⟩ := open_int Tryf.underlying3 (hval 0 3 v0 rfl rfl) h0
  obtain ⟨a1, rfl, rfl, rfl, w1⟩ := open_int Tryf.underlying3 (hval 1 3 v1 rfl rfl) h1
  clear hA0 hval0
  refine (walk a0 a1 W w0 w1).mono fun e W' ⟨he, bel⟩ => ?_
  subst he
  exact ⟨_, rfl, _, _, _, [], _, [], hW', trodAll_mk1 (shut_bool Tryf.underlying4 _), (trodAll_cons_mk (shut_int Tryf.underlying3 w0) (trodAll_cons_mk (shut_int Tryf.underlying3 w1) trodAll_mk0)), rfl, bel.frame _, fun h => by cases h⟩

theorem quiet (os : Os) : Stop.quiet Tryf.pinned.checked.prog os := by
  intro k hk
  rw [show Tryf.pinned.checked.prog.stopKnobs = [] by kernel_rfl] at hk
  cases hk

set_option maxRecDepth 100000 in
theorem over : Claim7.holds Tryf.pinned (.plain (OpenSpec.ofChange Rows.fnSetRegTopAcceptsAndStoresSpec)) (Claim7.toldRow Rows.fnSetRegTopAcceptsAndStoresRow (true, "fa34a30a9a2c3d19ba1de901acce4f7df156e06dedf62fb4ba16582f43b958bb") false false) :=
  Claim7.holds_of_told_any 4 Tryf.f4 "fmt.Sprintf, its operands' methods called" [] [] _ _ _ (by kernel_rfl) rfl rfl rfl (by kernel_rfl) (by kernel_rfl) rfl ⟨rfl, rfl, rfl, rfl, rfl, rfl, rfl⟩ rfl rfl (by kernel_rfl) (by kernel_rfl) Tryf.func4 (by kernel_rfl)
    (of_decide_eq_true (by kernel_rfl)) (by unfold Func.isWrapper; first | (rw [if_pos (by decide +kernel)]; kernel_rfl) | (rw [if_neg (by decide +kernel)]; exact ⟨rfl, rfl⟩)) (by kernel_rfl) rfl (by kernel_rfl) (by kernel_rfl)
    (by kernel_rfl) (by kernel_rfl) (by kernel_rfl) (by kernel_rfl) (by kernel_rfl) (by kernel_rfl) (by kernel_rfl) (by kernel_rfl) (by kernel_rfl) rfl (by kernel_rfl) rfl rfl
    rfl rfl
    rfl (by kernel_rfl) (by kernel_rfl) (by kernel_rfl) (by decide) (by kernel_rfl)
    (OpenClaim.moreEntering_of (by kernel_rfl) (by kernel_rfl) (by kernel_rfl) (by kernel_rfl) (by kernel_rfl) (by kernel_rfl) (by kernel_rfl) (by kernel_rfl) (by kernel_rfl) (by kernel_rfl))
    ⟨_, WideRow.started_initial, quiet _⟩
    (fun os started _ H enc _ => lifted os started H enc)

theorem proved : Rows.FnSetRegTopAcceptsAndStoresToldSaid := over
#print axioms proved
end Go.Proofs.YticnfohoddlolaaFmt.fnSetRegTopAcceptsAndStores
