/- fmt.Sprintf's stop at operands that are ints (and one string), in whatever number; the fields of an instruction. -/
import Derived.Test.YtbpkncpkgmehiaaFmtOt
import Derived.Stop.CallBack
namespace Go.Proofs.YtbpkncpkgmehiaaFmt
open Go.ChangeShapes Go.WideShapes Go.ChangeAt Go.RowKit
open Go.Extern.Stop Go.Stop Go.Extern Go.Kit
set_option linter.unusedVariables false

theorem callSpr (args : Array Value) (w : World) : (callFunc 12 args).run Tryf.prog w = ((FmtStop.sprintf #[9, 49] #[9] args).run Tryf.prog w).andThen fun v w' => .ok (.value v) w' :=
  run_callFunc_extern Tryf.func12 (by kernel_rfl) (by kernel_rfl) (by kernel_rfl) (by kernel_rfl) args w
theorem guardF (name : String) (w : World) : (FmtStop.guard name).run Tryf.prog w = .ok () w := by kernel_rfl
theorem op_int_v (x : Int) (w : World) : (FmtStop.operand "fmt.Sprintf" false 118 false (.iface 3 (.int .i64 x))).run Tryf.prog w = .ok (intShape, digits 8 (x % 18446744073709551616).toNat) w := by kernel_rfl
theorem op_int_d (x : Int) (w : World) : (FmtStop.operand "fmt.Sprintf" false 100 false (.iface 3 (.int .i64 x))).run Tryf.prog w = .ok (intShape, digits 8 (x % 18446744073709551616).toNat) w := by kernel_rfl
theorem op_str_s (s : ByteArray) (w : World) : (FmtStop.operand "fmt.Sprintf" false 115 false (.iface 9 (.string s))).run Tryf.prog w = .ok (strShape, FmtStop.pack s.data.toList) w := by kernel_rfl

/-- The operands as fmt is handed them. -/
inductive Op where
  | i (x : Int)
  | s (b : ByteArray)
def Op.val : Op → Value
  | .i x => .iface 3 (.int .i64 x)
  | .s b => .iface 9 (.string b)
def Op.read : Op → List UInt8 × List UInt8
  | .i x => (intShape, digits 8 (x % 18446744073709551616).toNat)
  | .s b => (strShape, FmtStop.pack b.data.toList)
def Op.fits : Op → UInt8 → Bool
  | .i _, v => v == 118 || v == 100
  | .s _, v => v == 115

theorem readAll_ops (w : World) (vs : List Value) : ∀ (ops : List Op) (ps : List (Nat × UInt8 × Bool)),
    ps.length = ops.length → (∀ (j : Nat) (x : Nat × UInt8 × Bool) (o : Op), ps[j]? = some x → ops[j]? = some o → vs[x.1]? = some o.val ∧ o.fits x.2.1 = true ∧ x.2.2 = false) →
    (FmtStop.readAll "fmt.Sprintf" false vs ps).run Tryf.prog w = .ok (ops.map Op.read) w
  | [], ps, hl, h => by
    obtain rfl : ps = [] := List.length_eq_zero_iff.1 hl
    simp [FmtStop.readAll]
  | o :: ops, [], hl, h => by simp at hl
  | o :: ops, (i, v, sh) :: ps, hl, h => by
    obtain ⟨h1, h2, h3⟩ := h 0 (i, v, sh) o rfl rfl
    simp at h1 h2 h3
    subst h3
    have ih := readAll_ops w vs ops ps (by simpa using hl) (fun j x o' hx ho => h (j + 1) x o' (by simpa using hx) (by simpa using ho))
    cases o with
    | i x =>
      simp [Op.fits] at h2
      rcases h2 with rfl | rfl
      · simp [FmtStop.readAll, h1, Op.val, op_int_v, Op.read, ih]
      · simp [FmtStop.readAll, h1, Op.val, op_int_d, Op.read, ih]
    | s b =>
      simp [Op.fits] at h2
      subst h2
      simp [FmtStop.readAll, h1, Op.val, op_str_s, Op.read, ih]

theorem ops_fit (ops : List Op) (ps : List (Nat × UInt8 × Bool)) (hl : ps.length = ops.length) (h : ((ps.zip ops).zipIdx.all fun x => x.1.1.1 == x.2 && x.1.2.fits x.1.1.2.1 && !x.1.1.2.2) = true) :
    ∀ (j : Nat) (x : Nat × UInt8 × Bool) (o : Op), ps[j]? = some x → ops[j]? = some o → (ops.map Op.val)[x.1]? = some o.val ∧ o.fits x.2.1 = true ∧ x.2.2 = false := by
  intro j x o hx ho
  have hz : (ps.zip ops)[j]? = some (x, o) := by rw [List.getElem?_zip_eq_some]; exact ⟨hx, ho⟩
  have hm : ((x, o), j) ∈ (ps.zip ops).zipIdx := by rw [List.mem_zipIdx_iff_getElem?]; exact hz
  have := List.all_eq_true.1 h _ hm
  simp at this
  obtain ⟨⟨rfl, h2⟩, h3⟩ := this
  exact ⟨by simp [ho], h2, h3⟩

/-- The call's run at operands that lie in a block of their own. -/
theorem spr_run (ops : List Op) (f : ByteArray) (ps : List (Nat × UInt8 × Bool)) (hp : FmtStop.printed? f ops.length = some ps) (hl : ps.length = ops.length)
    (hfit : ((ps.zip ops).zipIdx.all fun x => x.1.1.1 == x.2 && x.1.2.fits x.1.1.2.1 && !x.1.1.2.2) = true) (w : World) (b n : Nat) (hn : n = ops.length) (h0 : 0 < n)
    (hc : ∀ (j : Nat) v, (ops.map Op.val)[j]? = some v → w.cell? ⟨b, j, none⟩ = some v) :
    (callFunc 12 #[.string f, .slice (some ⟨b, 0, none⟩) n n]).run Tryf.prog w =
      .ok (.value (.string (FmtStop.textOf (w.tape w.drawn (.extern (word "fmt.Sprintf" (f.data.toList :: ops.flatMap fun o => [o.read.1, o.read.2]) 0) 0))))) w.drew := by
  subst hn
  have hcells : (FmtStop.cells (.slice (some ⟨b, 0, none⟩) ops.length ops.length)).run Tryf.prog w = .ok (ops.map Op.val) w := by
    have hL : (loadCells ⟨b, 0, none⟩ ops.length).run Tryf.prog w = .ok (ops.map Op.val).toArray w := by
      rw [← List.length_map (f := Op.val)]
      refine run_loadCells_list (P := Tryf.prog) w ⟨b, 0, none⟩ (ops.map Op.val) fun j v hv => ?_
      have hadd : (⟨b, 0, none⟩ : Addr).add j = ⟨b, j, none⟩ := by unfold Addr.add; split <;> simp_all
      rw [hadd]
      exact hc j v hv
    simp [FmtStop.cells, hL]
  have hr := readAll_ops w (ops.map Op.val) ops ps hl (ops_fit ops ps hl hfit)
  rw [callSpr, FmtStop.sprintf_lit]
  simp only [Sem.run_bind, guardF, Result.andThen_ok, hcells, List.length_map, hp, hr]
  simp [FmtStop.text, FmtStop.str_eq, Question.forced, Question.cut, List.flatMap_map]

end Go.Proofs.YtbpkncpkgmehiaaFmt
