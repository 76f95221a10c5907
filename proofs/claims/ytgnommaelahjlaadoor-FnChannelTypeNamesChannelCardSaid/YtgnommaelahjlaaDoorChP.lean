/- FnChannelTypeNamesChannel: for every input the law returns true, and its arguments and the listed variable read behind the call as they read before; the card is tied. Conditions: none beyond the row's own. -/
import Derived.Test.YtgnommaelahjlaaDoorCh
import Derived.Test.YtgnommaelahjlaaDoorCards
import Derived.Test.YtgnommaelahjlaaDoorTie
import Derived.Carry
import Derived.ChangeOld
import Derived.WalkSmall
import Derived.ChangeVars
import Derived.LaidMore
import Derived.Lay
import Derived.SevenTiedAt
import Derived.Stop.Joined
namespace Go.Proofs.YtgnommaelahjlaaDoor.fnChannelTypeNamesChannel
open Go.ChangeShapes Go.WideShapes Go.ChangeAt Go.RowKit
open Go.ChangeMaps (open_string shut_string)
set_option linter.unusedVariables false

/-- The ninth name, out of the condition. -/
theorem name_cell {W : World} (h : laidMetH Tryd.prog Rows.fnChannelTypeNamesChannelRow.laid W) : W.cell? ⟨0, 8, none⟩ = some (.string ⟨#[99, 104, 97, 110, 110, 101, 108]⟩) := by
  rw [MakeChecks.laidMetH_plain _ _ _ (by kernel_rfl)] at h
  obtain ⟨ps, ⟨g, t, cs, fuel, p, q, hg, ht, hv, hd, _, _⟩, _, _⟩ := h
  obtain rfl := Option.some.inj ((show Tryd.prog.globalNamed "github.com/yuin/gopher-lua.lValueNames" = some 0 by kernel_rfl).symm.trans hg)
  obtain rfl := Option.some.inj ((show (Tryd.prog.globals[0]?).map (·.type) = some 28 by kernel_rfl).symm.trans ht)
  obtain ⟨xs, m, _, ex, _, hl, hel⟩ := DataW.trod_array Tryd.underlying28 hd
  have c9 : Tryd.prog.cellsOf 9 = 1 := by kernel_rfl
  have hE := hel 8 (by omega)
  rw [c9, Nat.mul_one, List.getElem?_eq_getElem (by omega)] at hE
  obtain ⟨s, e1, e2, _⟩ := DataW.trod_string Tryd.underlying9 hE
  have e3 := (Prod.mk.inj ex).1
  unfold Rows.laid_github_com_yuin_gopher_lua_lValueNames at e3
  have e4 := congrArg (fun l => l[8]?) (DataW.agg.inj e3)
  simp only [List.getElem?_map] at e4
  rw [List.getElem?_eq_getElem (by omega : 8 < xs.length), e2] at e4
  have e5 : s.data.toList = [99, 104, 97, 110, 110, 101, 108] := by
    simp at e4
    exact e4.symm
  obtain ⟨⟨l⟩⟩ := s
  simp at e5
  subst e5
  rw [World.var?_cell hg hv 8]
  have h0 : ((cs.toList.drop 8).take 1)[0]? = some (.string ⟨⟨[99, 104, 97, 110, 110, 101, 108]⟩⟩) := by rw [e1]; rfl
  simpa using h0

open Go.WideElems in
/-- The listed variable reads as it did where below the heap's old size nothing has turned. -/
theorem var_stays {H : Type} {enc : TypeId × Value → H} {W W' : World} {gs : List (DataW H)} {q : List MemPlace} (bel : Below W.heap.size W W') (h0 : 0 < W.heap.size)
    (hV : DataW.TrodVars enc Tryd.prog W (fun _ => true) ["github.com/yuin/gopher-lua.lValueNames"] gs q) : DataW.TrodVars enc Tryd.prog W' (fun b => decide (b < W.heap.size)) ["github.com/yuin/gopher-lua.lValueNames"] gs q := by
  have hlt := hV.lt
  obtain ⟨g, t, cs, fuel, d, p, rfl, h1, h2, h3, h4, rfl⟩ := trodVars_one hV
  have h1' := h1
  have h2' := h2
  obtain rfl := Option.some.inj ((show Tryd.prog.globalNamed "github.com/yuin/gopher-lua.lValueNames" = some 0 by kernel_rfl).symm.trans h1)
  obtain rfl := Option.some.inj ((show (Tryd.prog.globals[0]?).map (·.type) = some 28 by kernel_rfl).symm.trans h2)
  have hr : Tryd.prog.readableRec 28 = true := by kernel_rfl
  have hrow : 28 < Tryd.prog.types.size := of_decide_eq_true (by kernel_rfl)
  have hp : ∀ x ∈ p, x.block < W.heap.size := fun x hx => hlt x (by simp [hx])
  exact trodVars_mk1 h1' h2' (var?_below bel h1' h0 h3) (DataW.trod_stays (kids_book laidOut hr) (book_sized hr) (fun h => by cases h) ⟨hrow, book_self _⟩ h4 (fun x hx => bel.same (hp x hx)) (fun x hx => by simpa using hp x hx))

set_option maxRecDepth 100000 in
theorem lifted (os : Os) (started : os.Started) (H : Type) (enc : TypeId × Value → H) :
    ReturnsInHanded {} Tryd.checked os 3 .any (fun w args => (Rows.fnChannelTypeNamesChannelSpec.pre enc Tryd.prog Tryd.f3 Rows.fnChannelTypeNamesChannelRow.domain false w args ∧ laidMetH Tryd.prog Rows.fnChannelTypeNamesChannelRow.laid w) ∧ sizedMet enc Tryd.prog Tryd.f3 (OpenSpec.ofChange Rows.fnChannelTypeNamesChannelSpec) false w args)
      (Rows.fnChannelTypeNamesChannelSpec.post enc Tryd.prog Tryd.f3 false true false false) := by
  refine returnsInHanded_of_change_and (C := Tryd.checked) (X := fun w _ => laidMetH Tryd.prog Rows.fnChannelTypeNamesChannelRow.laid w) (fun _ _ _ hh h => h.of_heap hh) own started (by kernel_rfl) Tryd.func3
    (ChangeSpec.witness_shaped (enc := enc) (C := Tryd.checked) (os := os) (X := fun w _ => laidMetH Tryd.prog Rows.fnChannelTypeNamesChannelRow.laid w) false (World.laidAll Tryd.prog os Rows.fnChannelTypeNamesChannelRow.laid) #[.int .i64 0, .int .i64 0] 8 (World.laidAll_os _ _ _)
      (World.shaped_of_ZipB (by kernel_rfl) (by kernel_rfl)) (by kernel_rfl) (by kernel_rfl) (by kernel_rfl)
      (by rw [MakeChecks.laidMetH_plain _ _ _ (by kernel_rfl)]; exact laidMet_laidAll _ (by kernel_rfl) (by kernel_rfl))) ?_
  intro W base args ds gs before hval0 hW hc _ hL _
  have hval : ∀ (j : Nat) t v, Tryd.f3.params[j]? = some t → args[j]? = some v → Value.okWide Tryd.prog W .any base t v := hval0
  have hW' := hW
  obtain ⟨p, q, hA0, hV, rfl, hfz, hnd⟩ := hW
  have hA : DataW.TrodAll enc Tryd.prog W 0 (fun _ => true) true Tryd.f3.params.toList args.toList ds p := hA0
  rw [Tryd.params3] at hA hval
  obtain ⟨v0, vs0, d0, ds0, p0, q0, hargs, rfl, rfl, h0, t0⟩ := trodAll_cons hA
  obtain ⟨v1, vs1, d1, ds1, p1, q1, rfl, rfl, rfl, h1, t1⟩ := trodAll_cons t0
  obtain ⟨rfl, rfl, rfl⟩ := trodAll_nil t1
  obtain rfl : args = #[v0, v1] := by cases args; simp_all
  have hV' : DataW.TrodVars enc Tryd.prog W (fun _ => true) ["github.com/yuin/gopher-lua.lValueNames"] gs q := hV
  obtain ⟨_, _, _, _, d, _, rfl, _⟩ := trodVars_one hV'
  obtain ⟨a0, rfl, rfl, rfl, w0⟩ := open_int Tryd.underlying3 (hval 0 3 v0 rfl rfl) h0
  obtain ⟨a1, rfl, rfl, rfl, w1⟩ := open_int Tryd.underlying3 (hval 1 3 v1 rfl rfl) h1
  clear hA0 hval0
  refine (walk a0 a1 W (name_cell hL)).mono fun e W' ⟨he, bel⟩ => ?_
  subst he
  exact ⟨_, rfl, _, _, _, [], _, q, hW', trodAll_mk1 (shut_bool Tryd.underlying4 _), (trodAll_cons_mk (shut_int Tryd.underlying3 w0) (trodAll_cons_mk (shut_int Tryd.underlying3 w1) trodAll_mk0)), var_stays bel (cell_block_lt (name_cell hL)) hV', bel.frame _, fun h => by cases h⟩

theorem over : Rows.fnChannelTypeNamesChannelRow.holds Tryd.pinned (OpenSpec.ofChange Rows.fnChannelTypeNamesChannelSpec) :=
  OpenClaim.holds_of_wide 3 Tryd.f3 rfl rfl rfl rfl rfl rfl rfl ⟨rfl, rfl, rfl, rfl, rfl⟩ rfl rfl rfl rfl rfl (by kernel_rfl) Tryd.func3 (by kernel_rfl)
    (of_decide_eq_true (by kernel_rfl)) (by unfold Func.isWrapper; first | (rw [if_pos (by decide +kernel)]; kernel_rfl) | (rw [if_neg (by decide +kernel)]; exact ⟨rfl, rfl⟩))
    (fun os started H enc _ => lifted os started H enc)

theorem proved : Rows.FnChannelTypeNamesChannelCardSaid :=
  Claim7.holds_tied_plain_at .later [] [.data] true (true, "c5dcfb71525c0e1e04e9cc11ddd0bf09b03c973236ac2e62cf10185d6e676db6") false over (fun _ h => by cases h) (by kernel_rfl) (fun _ h => by cases h) fnChannelTypeNamesChannel_row_tie rfl ⟨rfl, rfl⟩ (by kernel_rfl) rfl
    (fun f fn hf hfn => by
      obtain rfl : f = 3 := Option.some.inj ((show Tryd.prog.funcNamed "github.com/yuin/gopher-lua/n005_68.FnChannelTypeNamesChannel" = some 3 by kernel_rfl).symm.trans hf) |>.symm
      obtain rfl : fn = Tryd.f3 := (Option.some.inj (Tryd.func3.symm.trans hfn)).symm
      exact ⟨by kernel_rfl, fun j t ht => by
        rw [Tryd.params3] at ht
        have hm : t ∈ [3, 3] := by simpa using Array.mem_of_getElem? ht
        have hall : ([3, 3].all fun u => !Tryd.prog.wantsStandIn u) = true := by kernel_rfl
        exact (show Tryd.prog.wantsStandIn t = false by simpa using List.all_eq_true.1 hall t hm)⟩)
    (by kernel_rfl)
#print axioms proved
end Go.Proofs.YtgnommaelahjlaaDoor.fnChannelTypeNamesChannel
