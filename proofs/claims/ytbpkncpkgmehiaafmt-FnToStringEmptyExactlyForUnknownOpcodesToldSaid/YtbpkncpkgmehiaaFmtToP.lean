/- FnToStringEmptyExactlyForUnknownOpcodes: for every input the law returns true, and its argument and the listed variable read behind the call as they read before; fmt's texts are told, the card is tied. Conditions: none beyond the row's own. -/
import Derived.Test.YtbpkncpkgmehiaaFmtTo
import Derived.Test.YtbpkncpkgmehiaaFmtCards
import Derived.Test.YtbpkncpkgmehiaaFmtTie
import Derived.Carry
import Derived.ChangeOld
import Derived.WalkSmall
import Derived.ChangeVars
import Derived.LaidMore
import Derived.Lay
import Derived.SevenTiedAt
import Derived.Stop.JoinedAt
import Derived.Stop.JoinedTold
import Derived.SevenToldRow
namespace Go.Proofs.YtbpkncpkgmehiaaFmt.fnToStringEmptyExactlyForUnknownOpcodes
open Go.ChangeShapes Go.WideShapes Go.ChangeAt Go.RowKit
open Go.ChangeMaps (open_string shut_string)
set_option linter.unusedVariables false

open Go.WideElems in
/-- The listed variable reads as it did where below the heap's old size nothing has turned. -/
theorem var_stays {H : Type} {enc : TypeId × Value → H} {W W' : World} {gs : List (DataW H)} {q : List MemPlace} (bel : Below W.heap.size W W') (h0 : 0 < W.heap.size)
    (hV : DataW.TrodVars enc Tryf.prog W (fun _ => true) ["github.com/yuin/gopher-lua.opProps"] gs q) : DataW.TrodVars enc Tryf.prog W' (fun b => decide (b < W.heap.size)) ["github.com/yuin/gopher-lua.opProps"] gs q := by
  have hlt := hV.lt
  obtain ⟨g, t, cs, fuel, d, p, rfl, h1, h2, h3, h4, rfl⟩ := trodVars_one hV
  have h1' := h1
  have h2' := h2
  obtain rfl := Option.some.inj ((show Tryf.prog.globalNamed "github.com/yuin/gopher-lua.opProps" = some 0 by kernel_rfl).symm.trans h1)
  obtain rfl := Option.some.inj ((show (Tryf.prog.globals[0]?).map (·.type) = some 31 by kernel_rfl).symm.trans h2)
  have hr : Tryf.prog.readableRec 31 = true := by kernel_rfl
  have hrow : 31 < Tryf.prog.types.size := of_decide_eq_true (by kernel_rfl)
  have hp : ∀ x ∈ p, x.block < W.heap.size := fun x hx => hlt x (by simp [hx])
  exact trodVars_mk1 h1' h2' (var?_below bel h1' h0 h3) (DataW.trod_stays (kids_book laidOut hr) (book_sized hr) (fun h => by cases h) ⟨hrow, book_self _⟩ h4 (fun x hx => bel.same (hp x hx)) (fun x hx => by simpa using hp x hx))

theorem quiet (os : Os) : Stop.quiet Tryf.pinned.checked.prog os := by
  intro k hk
  rw [show Tryf.pinned.checked.prog.stopKnobs = [] by kernel_rfl] at hk
  cases hk

/-- An input that fits, its world's shape proved apart. -/
theorem witness_shaped_at {H : Type} {enc : TypeId × Value → H} {C : Checked} {os : Os} {f : FuncId} {fn : Func} {s : OpenSpec} {conds : List PathCond} {apart : Bool} {laid : List (String × DataW Unit)} (modest : Bool) (w0 : World) (args : Array Value) (hos : w0.os = os)
    (hsh : (w0.forCall (fun _ _ => 0) ⟨#[], args, []⟩).Shaped C.prog)
    (hok : Input.okWideB C.prog (w0.forCall (fun _ _ => 0) ⟨#[], args, []⟩) f ⟨#[], args, []⟩ = true)
    (hrow : s.preRow enc C.prog fn conds apart laid (w0.forCall (fun _ _ => 0) ⟨#[], args, []⟩).memory args) (F : Stop.Interp) :
    ∃ (w : World) (tape : Tape) (i : Input), w.os = os ∧ (w.forCall tape i).Shaped C.prog ∧ i.vars = [] ∧ Input.okWide C.prog (w.forCall tape i) .any w.heap.size f i ∧
      s.preRow enc C.prog fn conds apart laid (w.forCall tape i).memory i.args ∧ ({ modest := modest } : Assume).holds C.prog (lone (Frame.enter C.prog f i.args .normal) [] (w.forCall tape i)) ∧ F.answers tape :=
  ⟨w0, F.over fun _ _ => 0, ⟨#[], args, []⟩, hos, hsh, (Input.okWide_of_okWideB (base := 0) hok).1, (Input.okWide_of_okWideB hok).2, hrow, by
    simp only [Assume.holds]
    exact ⟨by simp, by simp, fun _ => F.over_modest Modest.zero, by simp, by simp⟩, F.over_answers _⟩

set_option maxRecDepth 100000 in
theorem lifted (os : Os) (started : os.Started) (H : Type) (enc : TypeId × Value → H) :
    ReturnsInTold Rows.fnToStringEmptyExactlyForUnknownOpcodesRow.shortTexts Rows.fnToStringEmptyExactlyForUnknownOpcodesRow.assume Tryf.checked os 3 .any Input.okWide ((OpenSpec.ofChange Rows.fnToStringEmptyExactlyForUnknownOpcodesSpec).preRow enc Tryf.prog Tryf.f3 Rows.fnToStringEmptyExactlyForUnknownOpcodesRow.domain Rows.fnToStringEmptyExactlyForUnknownOpcodesRow.apart Rows.fnToStringEmptyExactlyForUnknownOpcodesRow.laid) (fun F => ((OpenSpec.ofChange Rows.fnToStringEmptyExactlyForUnknownOpcodesSpec).at F).post enc Tryf.prog Tryf.f3 Rows.fnToStringEmptyExactlyForUnknownOpcodesRow.apart Rows.fnToStringEmptyExactlyForUnknownOpcodesRow.fresh Rows.fnToStringEmptyExactlyForUnknownOpcodesRow.handsOn Rows.fnToStringEmptyExactlyForUnknownOpcodesRow.again) (aloneAtReturn Tryf.prog) nothingAlways := by
  refine returnsInTold_of_row (C := Tryf.checked) (s := OpenSpec.ofChange Rows.fnToStringEmptyExactlyForUnknownOpcodesSpec) (by kernel_rfl) own started (by kernel_rfl) Tryf.func3
    (witness_shaped_at (enc := enc) (C := Tryf.checked) false (World.laidAll Tryf.prog os Rows.fnToStringEmptyExactlyForUnknownOpcodesRow.laid) #[.int .u32 0] (World.laidAll_os _ _ _) (World.shaped_of_ZipB (by kernel_rfl) (by kernel_rfl)) (by kernel_rfl)
      (OpenSpec.preRow_of_B rfl 8 (by kernel_rfl) (by kernel_rfl) (by rw [MakeChecks.laidMetH_plain _ _ _ (by kernel_rfl)]; exact laidMet_laidAll _ (by kernel_rfl) (by kernel_rfl)))) ?_
  intro TT W base args ds gs before _ hF hval0 hW _ _ _ hL _
  have hval : ∀ (j : Nat) t v, Tryf.f3.params[j]? = some t → args[j]? = some v → Value.okWide Tryf.prog W .any base t v := hval0
  have hW' := hW
  obtain ⟨p, q, hA0, hV, rfl, hfz, hnd⟩ := hW
  have hA : DataW.TrodAll enc Tryf.prog W 0 (fun _ => true) true Tryf.f3.params.toList args.toList ds p := hA0
  rw [Tryf.params3] at hA hval
  obtain ⟨v0, vs0, d0, ds0, p0, q0, hargs, rfl, rfl, h0, t0⟩ := trodAll_cons hA
  obtain ⟨rfl, rfl, rfl⟩ := trodAll_nil t0
  obtain rfl : args = #[v0] := by cases args; simp_all
  have hV' : DataW.TrodVars enc Tryf.prog W (fun _ => true) ["github.com/yuin/gopher-lua.opProps"] gs q := hV
  obtain ⟨_, _, _, _, d, _, rfl, _⟩ := trodVars_one hV'
  obtain ⟨a0, rfl, rfl, rfl, w0⟩ := open_int Tryf.underlying22 (hval 0 22 v0 rfl rfl) h0
  clear hA0 hval0
  have hpos : 0 < W.heap.size := by
    obtain ⟨b, off, h1, _⟩ := table hL
    exact cell_block_lt h1
  refine (walk TT a0 W w0 hF hL).mono fun e W' ⟨he, bel⟩ => ?_
  subst he
  exact ⟨_, rfl, _, _, _, [], _, q, hW', trodAll_mk1 (shut_bool Tryf.underlying4 _), (trodAll_cons_mk (shut_int Tryf.underlying22 w0) trodAll_mk0), var_stays bel hpos hV', bel.frame _, fun h => by cases h⟩

set_option maxRecDepth 100000 in
theorem proved : Rows.FnToStringEmptyExactlyForUnknownOpcodesToldSaid :=
  Claim7.holds_of_told_tied_any_at .later 3 Tryf.f3 "fmt.Sprintf" [] [] (true, "3726d8fadd254f672d9bbb82af67721c4abbb822f7d91ac011e5842b179c075e") false false [.widerDeep] true
    (by kernel_rfl) rfl rfl rfl (by kernel_rfl) (by kernel_rfl) rfl ⟨rfl, rfl, rfl, rfl, rfl, rfl, rfl⟩ rfl rfl (by kernel_rfl) (by kernel_rfl) Tryf.func3 (by kernel_rfl)
    (of_decide_eq_true (by kernel_rfl)) (by unfold Func.isWrapper; first | (rw [if_pos (by decide +kernel)]; kernel_rfl) | (rw [if_neg (by decide +kernel)]; exact ⟨rfl, rfl⟩)) (by kernel_rfl) rfl (by kernel_rfl) (by kernel_rfl)
    (by kernel_rfl) (by kernel_rfl) (by kernel_rfl) (by kernel_rfl) (by kernel_rfl) (by kernel_rfl) (by kernel_rfl) (by kernel_rfl) (by kernel_rfl) rfl (by kernel_rfl) rfl rfl
    rfl rfl
    rfl (by kernel_rfl) (by kernel_rfl) (by kernel_rfl) (by decide) (by kernel_rfl) fnToStringEmptyExactlyForUnknownOpcodes_row_tie
    (OpenClaim.moreEntering_of (by kernel_rfl) (by kernel_rfl) (by kernel_rfl) (by kernel_rfl) (by kernel_rfl) (by kernel_rfl) (by kernel_rfl) (by kernel_rfl) (by kernel_rfl) (by kernel_rfl))
    ⟨_, WideRow.started_initial, quiet _⟩
    (fun os started _ H enc _ => lifted os started H enc)
#print axioms proved
end Go.Proofs.YtbpkncpkgmehiaaFmt.fnToStringEmptyExactlyForUnknownOpcodes
