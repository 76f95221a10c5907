/- FnCheckUnresolvedGotoSkipsOuterBlocks: for every input the law returns true, and its arguments read behind the call as they read before. Conditions: none beyond the row's own. -/
import Derived.Test.YtpkolfmdockdnaaFmtCk
import Derived.Test.YtpkolfmdockdnaaFmtCards
import Derived.Stop.JoinedAt
import Derived.Stop.JoinedTold
import Derived.SevenToldRow
namespace Go.Proofs.YtpkolfmdockdnaaFmt.fnCheckUnresolvedGotoSkipsOuterBlocks
open Go.ChangeShapes Go.WideShapes Go.ChangeAt Go.RowKit
open Go.ChangeMaps (open_string shut_string)
set_option linter.unusedVariables false

set_option maxRecDepth 100000 in
theorem lifted (os : Os) (started : os.Started) (H : Type) (enc : TypeId × Value → H) :
    ReturnsInTold Rows.fnCheckUnresolvedGotoSkipsOuterBlocksRow.shortTexts Rows.fnCheckUnresolvedGotoSkipsOuterBlocksRow.assume Tryf.checked os 3 .any Input.okWide ((OpenSpec.ofChange Rows.fnCheckUnresolvedGotoSkipsOuterBlocksSpec).preRow enc Tryf.prog Tryf.f3 Rows.fnCheckUnresolvedGotoSkipsOuterBlocksRow.domain Rows.fnCheckUnresolvedGotoSkipsOuterBlocksRow.apart Rows.fnCheckUnresolvedGotoSkipsOuterBlocksRow.laid) (fun F => ((OpenSpec.ofChange Rows.fnCheckUnresolvedGotoSkipsOuterBlocksSpec).at F).post enc Tryf.prog Tryf.f3 Rows.fnCheckUnresolvedGotoSkipsOuterBlocksRow.apart Rows.fnCheckUnresolvedGotoSkipsOuterBlocksRow.fresh Rows.fnCheckUnresolvedGotoSkipsOuterBlocksRow.handsOn Rows.fnCheckUnresolvedGotoSkipsOuterBlocksRow.again) (aloneAtReturn Tryf.prog) nothingAlways := by
  refine returnsInTold_of_row (C := Tryf.checked) (s := OpenSpec.ofChange Rows.fnCheckUnresolvedGotoSkipsOuterBlocksSpec) (by kernel_rfl) own started (by kernel_rfl) Tryf.func3
    (OpenSpec.witness_stopped (enc := enc) (C := Tryf.checked) false ⟨#[], #[.slice none 0 0], []⟩ 8 (by kernel_rfl) (by kernel_rfl) (by kernel_rfl) (by kernel_rfl)) ?_
  intro TT W base args ds gs before _ hF hval0 hW _ _ _ _ _
  have hval : ∀ (j : Nat) t v, Tryf.f3.params[j]? = some t → args[j]? = some v → Value.okWide Tryf.prog W .any base t v := hval0
  have hW' := hW
  obtain ⟨p, q, hA0, hV, rfl, hfz, hnd⟩ := hW
  have hA : DataW.TrodAll enc Tryf.prog W 0 (fun _ => true) true Tryf.f3.params.toList args.toList ds p := hA0
  rw [Tryf.params3] at hA hval
  obtain ⟨v0, vs0, d0, ds0, p0, q0, hargs, rfl, rfl, h0, t0⟩ := trodAll_cons hA
  obtain ⟨rfl, rfl, rfl⟩ := trodAll_nil t0
  obtain rfl : args = #[v0] := by cases args; simp_all
  obtain ⟨rfl, rfl⟩ := trodVars_none hV
  obtain ⟨a0, len0, cap0, rfl⟩ := okWide_slice Tryf.underlying22 (hval 0 22 v0 rfl rfl)
  have k0 := h0
  have lt0 : ∀ x ∈ p0, x.block < W.heap.size := by obtain ⟨m, hm⟩ := k0; exact DataW.trod_lt m _ _ _ hm
  obtain ⟨z0, r0, w0⟩ := open_rowStr Tryf.underlying22 Tryf.underlying9 (by kernel_rfl) h0
  clear hA0 hval0
  refine (walk a0 len0 cap0 z0 W r0 w0).mono fun e W' ⟨he, bel⟩ => ?_
  subst he
  exact ⟨_, rfl, _, _, _, [], _, [], hW', trodAll_mk1 (shut_bool Tryf.underlying4 _), (trodAll_cons_mk (Below.trod laidOut (by kernel_rfl) (of_decide_eq_true (by kernel_rfl)) k0 bel lt0) trodAll_mk0), rfl, bel.frame _, fun h => by cases h⟩

theorem quiet (os : Os) : Stop.quiet Tryf.pinned.checked.prog os := by
  intro k hk
  rw [show Tryf.pinned.checked.prog.stopKnobs = [] by kernel_rfl] at hk
  cases hk

set_option maxRecDepth 100000 in
theorem over : Claim7.holds Tryf.pinned (.plain (OpenSpec.ofChange Rows.fnCheckUnresolvedGotoSkipsOuterBlocksSpec)) (Claim7.toldRow Rows.fnCheckUnresolvedGotoSkipsOuterBlocksRow (true, "b6d2da22319049aea381d8c9797f35dc4781aae88ef09c58c7f23025e81d0e75") false false) :=
  Claim7.holds_of_told_any 3 Tryf.f3 "fmt.Sprintf, its operands' methods called" [] [] _ _ _ (by kernel_rfl) rfl rfl rfl (by kernel_rfl) (by kernel_rfl) rfl ⟨rfl, rfl, rfl, rfl, rfl, rfl, rfl⟩ rfl rfl (by kernel_rfl) (by kernel_rfl) Tryf.func3 (by kernel_rfl)
    (of_decide_eq_true (by kernel_rfl)) (by unfold Func.isWrapper; first | (rw [if_pos (by decide +kernel)]; kernel_rfl) | (rw [if_neg (by decide +kernel)]; exact ⟨rfl, rfl⟩)) (by kernel_rfl) rfl (by kernel_rfl) (by kernel_rfl)
    (by kernel_rfl) (by kernel_rfl) (by kernel_rfl) (by kernel_rfl) (by kernel_rfl) (by kernel_rfl) (by kernel_rfl) (by kernel_rfl) (by kernel_rfl) rfl (by kernel_rfl) rfl rfl
    rfl rfl
    rfl (by kernel_rfl) (by kernel_rfl) (by kernel_rfl) (by decide) (by kernel_rfl)
    (OpenClaim.moreEntering_of (by kernel_rfl) (by kernel_rfl) (by kernel_rfl) (by kernel_rfl) (by kernel_rfl) (by kernel_rfl) (by kernel_rfl) (by kernel_rfl) (by kernel_rfl) (by kernel_rfl))
    ⟨_, WideRow.started_initial, quiet _⟩
    (fun os started _ H enc _ => lifted os started H enc)

theorem proved : Rows.FnCheckUnresolvedGotoSkipsOuterBlocksToldSaid := over
#print axioms proved
end Go.Proofs.YtpkolfmdockdnaaFmt.fnCheckUnresolvedGotoSkipsOuterBlocks
