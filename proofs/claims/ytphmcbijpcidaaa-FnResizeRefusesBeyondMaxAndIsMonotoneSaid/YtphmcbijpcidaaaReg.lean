/- The registry of n005_56: what it is in memory; its makers, setters, readers. -/
import Derived.Test.YtphmcbijpcidaaaRows2
import Derived.Laws.Entries
import Derived.Laws.CopyOwn
namespace Go.Proofs.Ytphmcbijpcidaaa
open Go.ChangeShapes Go.WideShapes Go.ChangeAt Go.RowKit
set_option linter.unusedVariables false

theorem run_store_iface (P : Program) (w : World) (a : Addr) (m : Mode) (t : TypeId) (v : Value) : (store a (.iface t v) m).run P w = stored P w a (.iface t v) m := run_store P w a _ m rfl
theorem run_store_nilIface (P : Program) (w : World) (a : Addr) (m : Mode) : (store a .nilIface m).run P w = stored P w a .nilIface m := run_store P w a _ m rfl
attribute [local go_sem] run_store_iface run_store_nilIface

/-- A row's content, from the list of its cells. -/
def lf (l : List Value) : Nat → Value := fun i => l.getD i undef
theorem lf_at (w : World) (l : List Value) (T k : Nat) (hk : k = w.heap.size) : (w.alloc (.cells l.toArray T)).rowIs k T l.length (lf l) := by
  subst hk
  have := World.rowIs_alloc w l.toArray T (lf l) (fun i hi => by
    have hi' : i < l.length := by simpa using hi
    simp [lf, List.getD, hi'])
  simpa using this

/-- The slots of an array that holds the first k of z. -/
def slot (z : List Nat) (k i : Nat) : Value := if i < k then .iface 58 (.float .f64 (z.getD i 0)) else .nilIface

/-- A registry: its handler's flag at h, its array at g, its struct at r. -/
structure Reg (w : World) (h g r : Nat) (n : Nat) (top gb mx : Int) (z : List Nat) (k : Nat) (hit : Bool) : Prop where
  fl : w.rowIs h 52 1 (lf [.bool hit])
  ar : w.rowIs g 60 n (slot z k)
  rg : w.rowIs r 48 6 (lf [.slice (some ⟨g, 0, none⟩) n n, .int .i64 top, .int .i64 gb, .int .i64 mx, .pointer none, .iface 49 (.pointer (some ⟨h, 0, none⟩))])

theorem Reg.below {w w' : World} {h g r n : Nat} {top gb mx : Int} {z : List Nat} {k : Nat} {hit : Bool} (R : Reg w h g r n top gb mx z k hit) {B : Nat} (hh : h < B) (hg : g < B) (hr : r < B) (b : Below B w w') : Reg w' h g r n top gb mx z k hit :=
  ⟨R.fl.of_block (b.block _ hh), R.ar.of_block (b.block _ hg), R.rg.of_block (b.block _ hr)⟩

theorem infoLV : (Try.prog.info? 60).map (fun i => (i.zero, i.size, i.bytes)) = some (some Value.nilIface, 1, 16) := by kernel_rfl

theorem newReg_any (n : Nat) (gb mx : Int) (w : World) (hn : n ≤ 1048576) :
    Calls Try.prog 20 #[.int .i64 n, .int .i64 gb, .int .i64 mx] w fun e w' => ∃ h g r, e = .returned (.pointer (some ⟨r, 0, none⟩)) ∧ w.heap.size ≤ h ∧ h < g ∧ g < r ∧ r < w'.heap.size ∧ Reg w' h g r n 0 gb mx [] 0 false ∧ Below w.heap.size w w' := by
  have hmk := run_make_row' (P := Try.prog) 43 60 .nilIface 16 Try.underlying43 infoLV rfl .i64 .i64 n (by omega) (by omega)
  go_enter Try.func20, Try.ntmps20
  go_wp2
  go_ret
  refine ⟨w.heap.size, w.heap.size + 1, w.heap.size + 1 + 1, rfl, Nat.le_refl _, by omega, by omega, by simp, ⟨?_, ?_, ?_⟩, by repeat (first | exact Below.refl _ _ | (refine Below.alloc ?_ (by simp <;> omega) _))⟩
  · iterate 2 refine World.rowIs.alloc ?_ _
    exact lf_at w [.bool false] _ _ rfl
  · refine World.rowIs.alloc ?_ _
    have := World.rowIs_made (w.alloc (Obj.cells #[Value.bool false] 52)) Value.nilIface n 60
    rw [World.size_alloc] at this
    exact this.congr (fun i _ => by simp [slot])
  · exact lf_at _ [_, _, _, _, _, _] _ _ (by simp)

theorem as_flag (v : Value) (w : World) : (Instr.typeAssert (.iface 49 v) 46 49 true).run Try.prog w = .ok (.tuple #[v, .bool true]) w := by kernel_rfl
theorem as_num (v : Value) (w : World) : (Instr.typeAssert (.iface 58 v) 60 58 true).run Try.prog w = .ok (.tuple #[v, .bool true]) w := by kernel_rfl
theorem as_nil (w : World) : (Instr.typeAssert .nilIface 60 58 true).run Try.prog w = .ok (.tuple #[.float .f64 0, .bool false]) w := by kernel_rfl
attribute [local go_sem] as_flag as_num as_nil

theorem Reg.drew {w : World} {h g r n : Nat} {top gb mx : Int} {z : List Nat} {k : Nat} {hit : Bool} (R : Reg w h g r n top gb mx z k hit) (q : Nat) : Reg (w.drewN q) h g r n top gb mx z k hit := ⟨R.fl.of_block rfl, R.ar.of_block rfl, R.rg.of_block rfl⟩

section
variable {h g r n : Nat} {top gb mx : Int} {z : List Nat} {k : Nat} {hit : Bool}

theorem len_any (w : World) (R : Reg w h g r n top gb mx z k hit) : Calls Try.prog 14 #[.pointer (some ⟨r, 0, none⟩)] w fun e w' => e = .returned (.int .i64 n) ∧ w = w' := by
  have c0 := R.rg.cell (i := 0) (by omega)
  simp only [lf] at c0
  go_enter Try.func14, Try.ntmps14
  go_wp2
  go_ret
  exact ⟨rfl, rfl⟩
theorem cap_any (w : World) (R : Reg w h g r n top gb mx z k hit) : Calls Try.prog 15 #[.pointer (some ⟨r, 0, none⟩)] w fun e w' => e = .returned (.int .i64 n) ∧ w = w' := by
  have c0 : w.cell? ⟨r, 0, none⟩ = some (.slice (some ⟨g, 0, none⟩) n n) := R.rg.cell (i := 0) (by omega)
  go_enter Try.func15, Try.ntmps15
  go_wp2
  go_ret
  exact ⟨rfl, rfl⟩
theorem top_any (w : World) (R : Reg w h g r n top gb mx z k hit) : Calls Try.prog 16 #[.pointer (some ⟨r, 0, none⟩)] w fun e w' => e = .returned (.int .i64 top) ∧ w = w' := by
  have c1 : w.cell? ⟨r, 1, none⟩ = some (.int .i64 top) := R.rg.cell (i := 1) (by omega)
  go_enter Try.func16, Try.ntmps16
  go_wp2
  go_ret
  exact ⟨rfl, rfl⟩
theorem over_any (w : World) (R : Reg w h g r n top gb mx z k hit) : Calls Try.prog 17 #[.pointer (some ⟨r, 0, none⟩)] w fun e w' => e = .returned (.bool hit) ∧ w = w' := by
  have c5 : w.cell? ⟨r, 5, none⟩ = some (.iface 49 (.pointer (some ⟨h, 0, none⟩))) := R.rg.cell (i := 5) (by omega)
  have f0 : w.cell? ⟨h, 0, none⟩ = some (.bool hit) := R.fl.cell (i := 0) (by omega)
  go_enter Try.func17, Try.ntmps17
  go_wp2
  go_ret
  exact ⟨rfl, rfl⟩
theorem full_any (w : World) (R : Reg w h g r n top gb mx z k hit) : Calls Try.prog 21 #[.pointer (some ⟨r, 0, none⟩)] w fun e w' => e = .returned (.bool (decide ((n : Int) ≤ top))) ∧ ∃ k, w.drewN k = w' := by
  have c0 : w.cell? ⟨r, 0, none⟩ = some (.slice (some ⟨g, 0, none⟩) n n) := R.rg.cell (i := 0) (by omega)
  have c1 : w.cell? ⟨r, 1, none⟩ = some (.int .i64 top) := R.rg.cell (i := 1) (by omega)
  go_enter Try.func21, Try.ntmps21
  go_wp2
  go_quiet (fail)
  go_wp2
  go_ret
  exact ⟨rfl, _, rfl⟩
theorem setTop_any (t : Int) (w : World) (R : Reg w h g r n top gb mx z k hit) (hh : h ≠ r) (hg : g ≠ r) : Calls Try.prog 30 #[.pointer (some ⟨r, 0, none⟩), .int .i64 t] w fun e w' => e = .returned (.tuple #[]) ∧ Reg w' h g r n t gb mx z k hit ∧ w'.heap.size = w.heap.size ∧ Below r w w' := by
  have c1 : w.cell? ⟨r, 1, none⟩ = some (.int .i64 top) := R.rg.cell (i := 1) (by omega)
  have hf := R.rg.frozen 1
  go_enter Try.func30, Try.ntmps30
  go_wp2
  go_end0
  refine ⟨rfl, ⟨R.fl.setOther (a := ⟨r, 1, none⟩) hh _, R.ar.setOther (a := ⟨r, 1, none⟩) hg _, (R.rg.set 1 _).congr fun i hi => ?_⟩, by simp, (Below.refl r w).setCell (p := ⟨r, 1, none⟩) (Nat.le_refl _) _⟩
  match i, hi with
  | 0, _ => rfl
  | 1, _ => rfl
  | 2, _ => rfl
  | 3, _ => rfl
  | 4, _ => rfl
  | 5, _ => rfl

theorem slot_set (z : List Nat) (k i : Nat) : (if i = k then (.iface 58 (.float .f64 (z.getD k 0)) : Value) else slot z k i) = slot z (k + 1) i := by
  unfold slot
  by_cases e : i = k
  · subst e
    simp
  · rw [if_neg e]
    by_cases l : i < k
    · rw [if_pos l, if_pos (by omega)]
    · rw [if_neg l, if_neg (by omega)]
theorem setSlot_any (v : Nat) (w : World) (R : Reg w h g r n top gb mx z k hit) (hv : z.getD k 0 = v) (hk : k < n) (hh : h ≠ g) (hr : r ≠ g) : Calls Try.prog 29 #[.pointer (some ⟨r, 0, none⟩), .int .i64 k, .float .f64 v] w fun e w' => e = .returned (.tuple #[]) ∧ Reg w' h g r n top gb mx z (k + 1) hit ∧ w'.heap.size = w.heap.size ∧ Below g w w' := by
  have c0 : w.cell? ⟨r, 0, none⟩ = some (.slice (some ⟨g, 0, none⟩) n n) := R.rg.cell (i := 0) (by omega)
  have hc := R.ar.cell (i := k) hk
  have hf := R.ar.frozen k
  have hk' : (k : Int) < (n : Int) := by omega
  go_enter Try.func29, Try.ntmps29
  go_wp2
  go_end0
  refine ⟨rfl, ⟨R.fl.setOther (a := ⟨g, k, none⟩) hh _, (R.ar.set k _).congr fun i hi => ?_, R.rg.setOther (a := ⟨g, k, none⟩) hr _⟩, by simp, (Below.refl g w).setCell (p := ⟨g, k, none⟩) (Nat.le_refl _) _⟩
  rw [← hv]
  exact slot_set z k i
theorem slotIsNil_any (i : Nat) (w : World) (R : Reg w h g r n top gb mx z k hit) (hi : i < n) : Calls Try.prog 34 #[.pointer (some ⟨r, 0, none⟩), .int .i64 i] w fun e w' => e = .returned (.bool (decide (k ≤ i))) ∧ w = w' := by
  have c0 : w.cell? ⟨r, 0, none⟩ = some (.slice (some ⟨g, 0, none⟩) n n) := R.rg.cell (i := 0) (by omega)
  have hc := R.ar.cell (i := i) hi
  have hi' : (i : Int) < (n : Int) := by omega
  by_cases l : i < k
  · simp only [slot, if_pos l] at hc
    have hd : decide (k ≤ i) = false := by simp; omega
    go_enter Try.func34, Try.ntmps34
    go_wp2
    go_ret
    exact ⟨by rw [hd]; rfl, rfl⟩
  · simp only [slot, if_neg l] at hc
    have hd : decide (k ≤ i) = true := by simp; omega
    go_enter Try.func34, Try.ntmps34
    go_wp2
    go_ret
    exact ⟨by rw [hd]; rfl, rfl⟩
theorem slotNumber_any (i : Nat) (w : World) (R : Reg w h g r n top gb mx z k hit) (hi : i < n) : Calls Try.prog 32 #[.pointer (some ⟨r, 0, none⟩), .int .i64 i] w fun e w' => e = .returned (.tuple #[.float .f64 (if i < k then z.getD i 0 else 0), .bool (decide (i < k))]) ∧ w = w' := by
  have c0 : w.cell? ⟨r, 0, none⟩ = some (.slice (some ⟨g, 0, none⟩) n n) := R.rg.cell (i := 0) (by omega)
  have hc := R.ar.cell (i := i) hi
  have hi' : (i : Int) < (n : Int) := by omega
  by_cases l : i < k
  · simp only [slot, if_pos l] at hc
    go_enter Try.func32, Try.ntmps32
    go_wp2
    go_ret2
    exact ⟨by simp [l], rfl⟩
  · simp only [slot, if_neg l] at hc
    go_enter Try.func32, Try.ntmps32
    go_wp2
    go_ret2
    exact ⟨by simp [l], rfl⟩
theorem sameF_any (v : Nat) (w : World) : Calls Try.prog 33 #[.float .f64 v, .float .f64 v] w fun e w' => e = .returned (.bool true) ∧ w = w' := by
  by_cases hb : FloatKind.f64.format.order v v = some Ordering.eq
  · go_enter Try.func33, Try.ntmps33
    go_wp2
    go_ret
    exact ⟨rfl, rfl⟩
  · have h1 : (FloatKind.f64.format.order v v == some Ordering.eq) = false := by simpa using hb
    have h2 : (FloatKind.f64.format.order v v != some Ordering.eq) = true := by simpa using hb
    go_enter Try.func33, Try.ntmps33
    go_wp2
    go_ret
    exact ⟨rfl, rfl⟩
end
end Go.Proofs.Ytphmcbijpcidaaa
