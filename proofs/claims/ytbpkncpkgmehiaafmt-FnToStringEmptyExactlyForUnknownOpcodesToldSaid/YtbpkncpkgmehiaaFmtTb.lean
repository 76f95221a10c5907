/- The table opProps, out of the row's condition: at each opcode up to the last a name of at most 100 bytes and a type that is 0, 1 or 2. -/
import Derived.Test.YtbpkncpkgmehiaaFmtBase
import Derived.ChangeArms
import Derived.LaidMore
import Derived.Lay
import Derived.Deep.Slices
namespace Go.Proofs.YtbpkncpkgmehiaaFmt
open Go.ChangeShapes Go.WideShapes Go.ChangeAt Go.RowKit
set_option linter.unusedVariables false

/-- What a row of the table must look like. -/
def rowOk : DataW Unit → Bool
  | .agg [.lit (.string n), _, _, _, _, .lit (.int .i64 t)] => n.length ≤ 100 && (t == 0 || t == 1 || t == 2)
  | _ => false
def tabOk : DataW Unit → Bool
  | .slice rows rest => rows.length == 42 && rest.length == 0 && rows.all rowOk
  | _ => false
theorem tab_closed : tabOk Rows.laid_github_com_yuin_gopher_lua_opProps = true := by decide +kernel

theorem table {W : World} (h : laidMetH Tryf.prog Rows.fnToStringEmptyExactlyForUnknownOpcodesRow.laid W) :
    ∃ b off, W.cell? ⟨0, 0, none⟩ = some (.slice (some ⟨b, off, none⟩) 42 42) ∧ b < W.heap.size ∧ ∀ o : Nat, o < 42 → ∃ (nm : ByteArray) (ty : Int), W.cell? ⟨b, off + o * 6, none⟩ = some (.string nm) ∧ nm.size ≤ 100 ∧
      W.cell? ⟨b, off + o * 6 + 5, none⟩ = some (.int .i64 ty) ∧ (ty = 0 ∨ ty = 1 ∨ ty = 2) := by
  rw [MakeChecks.laidMetH_plain _ _ _ (by kernel_rfl)] at h
  obtain ⟨ps, ⟨g, t, cs, fuel, p, q, hg, ht, hv, hd, _, _⟩, _, _⟩ := h
  obtain rfl := Option.some.inj ((show Tryf.prog.globalNamed "github.com/yuin/gopher-lua.opProps" = some 0 by kernel_rfl).symm.trans hg)
  obtain rfl := Option.some.inj ((show (Tryf.prog.globals[0]?).map (·.type) = some 31 by kernel_rfl).symm.trans ht)
  have c6 : Tryf.prog.cellsOf 30 = 6 := by kernel_rfl
  have c1s : Tryf.prog.cellsOf 9 = 1 := by kernel_rfl
  have c1t : Tryf.prog.cellsOf 28 = 1 := by kernel_rfl
  have hok := tab_closed
  obtain ⟨D0, hD0⟩ : ∃ D0, D0 = Rows.laid_github_com_yuin_gopher_lua_opProps (H := Unit) := ⟨_, rfl⟩
  have hd' : DataW.trod (fun _ => ()) Tryf.prog W 0 (fun _ => true) false fuel 31 cs.toList = some (D0, p) := by rw [hD0]; exact hd
  rw [← hD0] at hok
  clear hd hD0
  rcases Go.Deep.open_slice Tryf.underlying31 hd' with ⟨_, hx⟩ | ⟨a, len, cap, m, n, D, Pl, hcs, _, hl, hm, hmm, hx, hel⟩
  · obtain ⟨rfl, _⟩ := Prod.mk.inj hx
    simp [tabOk] at hok
  simp at hmm
  subst hmm
  obtain ⟨rfl, _⟩ := Prod.mk.inj hx
  simp only [tabOk, List.length_map, List.length_range, Bool.and_eq_true, beq_iff_eq] at hok
  obtain ⟨⟨h42, h0⟩, hall⟩ := hok
  subst h42
  obtain rfl : m = 42 := by omega
  have hrow : ∀ o : Nat, o < 42 → rowOk (D o) = true := fun o ho => List.all_eq_true.1 hall _ (List.mem_map.2 ⟨o, by simpa using ho, rfl⟩)
  rw [c6] at hel
  obtain ⟨b, off, spot⟩ := a
  have hspot : spot = none := by
    obtain ⟨cs', h1, _⟩ := hel 0 (by omega)
    obtain ⟨_, hl6, h3⟩ := World.cells?_some h1
    have h4 := h3 0 (by omega)
    rw [List.getElem?_eq_getElem (by omega)] at h4
    simpa [Addr.add] using World.cell?_spot h4
  subst hspot
  have h0c : W.cell? ⟨0, 0, none⟩ = some (.slice (some ⟨b, off, none⟩) 42 42) := by
    rw [World.var?_cell hg hv 0]
    have h0 : (cs.toList)[0]? = some (.slice (some ⟨b, off, none⟩) 42 42) := by rw [hcs]; rfl
    simpa using h0
  have hadd : ∀ k : Nat, (⟨b, off, none⟩ : Addr).add k = ⟨b, off + k, none⟩ := by
    intro k
    unfold Addr.add
    split <;> simp_all
  have hcells : ∀ o : Nat, o < 42 → ∃ (nm : ByteArray) (ty : Int), W.cell? ⟨b, off + o * 6, none⟩ = some (.string nm) ∧ nm.size ≤ 100 ∧
      W.cell? ⟨b, off + o * 6 + 5, none⟩ = some (.int .i64 ty) ∧ (ty = 0 ∨ ty = 1 ∨ ty = 2) := by
    intro o ho
    obtain ⟨cs', h1, h2⟩ := hel o ho
    obtain ⟨_, hl6, hc⟩ := World.cells?_some h1
    have k0 := hc 0 (by omega)
    have k5 := hc 5 (by omega)
    rw [hadd] at k0 k5
    have hadd2 : ∀ k j : Nat, (⟨b, k, none⟩ : Addr).add j = ⟨b, k + j, none⟩ := by
      intro k j
      unfold Addr.add
      split <;> simp_all
    rw [hadd2] at k0 k5
    obtain ⟨xs, n', _, hxx, hlen, hxl, hf⟩ := DataW.trod_struct Tryf.underlying30 h2
    obtain ⟨hDo, _⟩ := Prod.mk.inj hxx
    have hr := hrow o ho
    rw [hDo] at hr
    match xs, hxl with
    | [y0, y1, y2, y3, y4, y5], _ =>
      have e0 : DataW.trod (fun _ => ()) Tryf.prog W 0 (fun _ => true) false n' 9 ((cs'.drop 0).take (Tryf.prog.cellsOf 9)) = some y0 := hf 0 _ rfl
      have e5 : DataW.trod (fun _ => ()) Tryf.prog W 0 (fun _ => true) false n' 28 ((cs'.drop 5).take (Tryf.prog.cellsOf 28)) = some y5 := hf 5 _ rfl
      rw [c1s] at e0
      rw [c1t] at e5
      obtain ⟨s, s1, s2, _⟩ := DataW.trod_string Tryf.underlying9 e0
      obtain ⟨ty, t1, t2, _⟩ := DataW.trod_int Tryf.underlying28 e5
      obtain ⟨z0, z0'⟩ := y0
      obtain ⟨z5, z5'⟩ := y5
      obtain ⟨rfl, _⟩ := Prod.mk.inj s2
      obtain ⟨rfl, _⟩ := Prod.mk.inj t2
      simp only [List.map_cons, List.map_nil, rowOk, Bool.and_eq_true, Bool.or_eq_true, beq_iff_eq, decide_eq_true_eq] at hr
      match cs', hl6 with
      | [v0, v1, v2, v3, v4, v5], _ =>
        simp at s1 t1
        subst s1 t1
        refine ⟨s, ty, by simpa using k0, by simpa using hr.1, by simpa using k5, ?_⟩
        rcases hr.2 with (h | h) | h
        · exact Or.inl h
        · exact Or.inr (Or.inl h)
        · exact Or.inr (Or.inr h)
  refine ⟨b, off, h0c, ?_, hcells⟩
  obtain ⟨nm, _, h1, _⟩ := hcells 0 (by omega)
  exact cell_block_lt h1
end Go.Proofs.YtbpkncpkgmehiaaFmt
