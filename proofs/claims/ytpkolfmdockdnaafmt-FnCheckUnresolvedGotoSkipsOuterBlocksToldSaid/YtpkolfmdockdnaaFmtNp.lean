/- newVarNamePool, newCodeBlock, newFunctionProto, newFuncContext (n005_54). -/
import Derived.Test.YtpkolfmdockdnaaFmtInv
namespace Go.Proofs.YtpkolfmdockdnaaFmt.inv
open Go.ChangeShapes Go.WideShapes Go.ChangeAt Go.RowKit
set_option linter.unusedVariables false
set_option maxRecDepth 100000

/-- A value that is a slice, empty, of the given capacity. -/
def E0 (c : Nat) (v : Value) : Prop := ∃ a : Option Addr, v = .slice a 0 c
/-- A block of cells that may be written. -/
def Blk (w : World) (q : Nat) : Prop := ∃ ca ta, w.heap[q]? = some (.cells ca ta (0, 0))
theorem heap_lt {w : World} {m : Nat} {o : Obj} (h : w.heap[m]? = some o) : m < w.heap.size := by
  rcases Nat.lt_or_ge m w.heap.size with h1 | h1
  · exact h1
  · rw [Array.getElem?_eq_none h1] at h
    cases h
theorem Blk.lt {w : World} {q : Nat} (h : Blk w q) : q < w.heap.size := by
  obtain ⟨_, _, h⟩ := h
  exact heap_lt h
theorem Blk.below {w w' : World} {q : Nat} (h : Blk w q) (b : Below w.heap.size w w') : Blk w' q := by
  have hl := h.lt
  obtain ⟨ca, ta, h⟩ := h
  exact ⟨ca, ta, (b.block q hl).trans h⟩
theorem Blk.set {w : World} {q : Nat} (h : Blk w q) (a : Addr) (v : Value) : Blk (w.setCell a v) q := by
  obtain ⟨ca, ta, h⟩ := h
  by_cases e : q = a.block
  · subst e
    unfold Blk
    simp only [World.setCell, Array.getElem?_modify, if_true, h, Option.map_some]
    exact ⟨_, _, rfl⟩
  · exact ⟨ca, ta, (Below.heap_setCell _ _ _ _ e).trans h⟩
theorem Blk.new (w : World) (cs : Array Value) (T : TypeId) : Blk (w.alloc (.cells cs T)) w.heap.size := ⟨_, _, (MapKept.heap_alloc w _).1⟩
def PtrTo (B : Nat) (x : Value) (v : Value) (w : World) : Prop := ∃ q, v = .pointer (some ⟨q, 0, none⟩) ∧ B ≤ q ∧ w.cell? ⟨q, 0, none⟩ = some x ∧ Blk w q
def pPost (B : Nat) (s : ByteArray) : Nat → Value → World → Prop
  | 0, v, _ => v = .string s
  | 1, v, _ => E0 128 v
  | 2, v, _ => E0 32 v
  | 3, v, _ => E0 16 v
  | 4, v, _ => E0 128 v
  | 5, v, _ => E0 16 v
  | 6, v, _ => E0 128 v
  | 7, v, _ => E0 16 v
  | 8, v, _ => E0 32 v
  | 9, v, _ => ∃ a1 a2 a3 a4 a5 a6 a7 a8 : Option Addr, v = .agg #[.string s, .int .i64 0, .int .i64 0, .int .u8 0, .int .u8 0, .int .u8 0, .int .u8 2, .slice a1 0 128, .slice a2 0 32, .slice a3 0 16, .slice a4 0 128, .slice a5 0 16, .slice a6 0 128, .slice a7 0 16, .slice a8 0 32]
  | _, v, w => PtrTo B (.string s) v w
theorem pPost_stays (B : Nat) (s : ByteArray) : ∀ i v w w', pPost B s i v w → Below w.heap.size w w' → pPost B s i v w' := by
  intro i v w w' h b
  match i, h with
  | 0, h => exact h
  | 1, h => exact h
  | 2, h => exact h
  | 3, h => exact h
  | 4, h => exact h
  | 5, h => exact h
  | 6, h => exact h
  | 7, h => exact h
  | 8, h => exact h
  | 9, h => exact h
  | n + 10, ⟨q, e, hq, hc, hk⟩ => exact ⟨q, e, hq, (b.cell (cell_block_lt hc)).trans hc, hk.below b⟩
theorem new0 {w : World} {x : Value} {l : List Value} {T : Nat} : (w.alloc (.cells (x :: l).toArray T)).cell? ⟨w.heap.size, 0, none⟩ = some x := by
  have := World.rowIs_alloc w (x :: l).toArray T (fun i => (x :: l).getD i undef) (fun i hi => by
    have hi' : i < (x :: l).length := by simpa using hi
    rw [List.getD, List.getElem?_eq_getElem hi']
    simp)
  exact this.cell (i := 0) (by simp)

abbrev pCells (s : ByteArray) (a1 a2 a3 a4 a5 a6 a7 a8 : Option Addr) : Array Value := #[.string s, .int .i64 0, .int .i64 0, .int .u8 0, .int .u8 0, .int .u8 0, .int .u8 2, .slice a1 0 128, .slice a2 0 32, .slice a3 0 16, .slice a4 0 128, .slice a5 0 16, .slice a6 0 128, .slice a7 0 16, .slice a8 0 32]
theorem buildP (s : ByteArray) (a1 a2 a3 a4 a5 a6 a7 a8 : Option Addr) (w : World) : (Instr.build 56 #[(0, .string s), (1, .int .i64 0), (2, .int .i64 0), (3, .int .u8 0), (4, .int .u8 0), (5, .int .u8 0), (6, .int .u8 2), (7, .slice a1 0 128), (8, .slice a2 0 32), (9, .slice a3 0 16), (10, .slice a4 0 128), (11, .slice a5 0 16), (12, .slice a6 0 128), (13, .slice a7 0 16), (14, .slice a8 0 32)]).run Tryf.prog w = .ok (.agg (pCells s a1 a2 a3 a4 a5 a6 a7 a8)) w := by kernel_rfl
theorem boxP (s : ByteArray) (a1 a2 a3 a4 a5 a6 a7 a8 : Option Addr) (w : World) : (Instr.box 56 (.agg (pCells s a1 a2 a3 a4 a5 a6 a7 a8))).run Tryf.prog w = .ok (.pointer (some ⟨w.heap.size, 0, none⟩)) (w.alloc (.cells (pCells s a1 a2 a3 a4 a5 a6 a7 a8) 56)) := by kernel_rfl

set_option maxHeartbeats 1000000 in
theorem proto_any (s : ByteArray) (w : World) : Calls Tryf.prog 16 #[.string s] w fun e w' => ∃ v, e = .returned v ∧ PtrTo w.heap.size (.string s) v w' ∧ Below w.heap.size w w' := by
  go_enter Tryf.func16, Tryf.ntmps16
  go_wp2_with fail
  refine region_inv [3, 4, 5, 6, 7, 8, 9, 10, 11, 12, 13, 2] (pPost w.heap.size s) _ w (by kernel_rfl) rfl ?_ (by decide) (by intro d hd; simp at hd; simp; omega) ?_ (pPost_stays _ _) ?_ ?_
  · intro i o ho
    match i, ho with
    | 0, rfl => rfl
    | 1, rfl => rfl
    | 2, rfl => rfl
    | 3, rfl => rfl
    | 4, rfl => rfl
    | 5, rfl => rfl
    | 6, rfl => rfl
    | 7, rfl => rfl
    | 8, rfl => rfl
    | 9, rfl => rfl
    | 10, rfl => rfl
    | 11, rfl => rfl
  · intro i o ho
    match i, ho with
    | 0, rfl => decide
    | 1, rfl => decide
    | 2, rfl => decide
    | 3, rfl => decide
    | 4, rfl => decide
    | 5, rfl => decide
    | 6, rfl => decide
    | 7, rfl => decide
    | 8, rfl => decide
    | 9, rfl => decide
    | 10, rfl => decide
    | 11, rfl => decide
  · intro i o ho a w1 K hb hoff hin hK
    match i, ho with
    | 0, rfl => exact wpOp_plain rfl rfl (wp_value (v := sl a 0) rfl (hK _ _ (hoff 0 (by decide)) (Below.refl _ _)))
    | 1, rfl =>
      obtain ⟨ob, hob⟩ := mk0 (P := Tryf.prog) 49 _ 128 Tryf.underlying49 (by kernel_rfl) (by omega)
      exact wpOp_plain rfl rfl (wp_value (ex_make (hob w1)) (hK _ _ ⟨_, rfl⟩ ((Below.refl _ _).alloc (Nat.le_refl _) _)))
    | 2, rfl =>
      obtain ⟨ob, hob⟩ := mk0 (P := Tryf.prog) 50 _ 32 Tryf.underlying50 (by kernel_rfl) (by omega)
      exact wpOp_plain rfl rfl (wp_value (ex_make (hob w1)) (hK _ _ ⟨_, rfl⟩ ((Below.refl _ _).alloc (Nat.le_refl _) _)))
    | 3, rfl =>
      obtain ⟨ob, hob⟩ := mk0 (P := Tryf.prog) 51 _ 16 Tryf.underlying51 (by kernel_rfl) (by omega)
      exact wpOp_plain rfl rfl (wp_value (ex_make (hob w1)) (hK _ _ ⟨_, rfl⟩ ((Below.refl _ _).alloc (Nat.le_refl _) _)))
    | 4, rfl =>
      obtain ⟨ob, hob⟩ := mk0 (P := Tryf.prog) 52 _ 128 Tryf.underlying52 (by kernel_rfl) (by omega)
      exact wpOp_plain rfl rfl (wp_value (ex_make (hob w1)) (hK _ _ ⟨_, rfl⟩ ((Below.refl _ _).alloc (Nat.le_refl _) _)))
    | 5, rfl =>
      obtain ⟨ob, hob⟩ := mk0 (P := Tryf.prog) 53 _ 16 Tryf.underlying53 (by kernel_rfl) (by omega)
      exact wpOp_plain rfl rfl (wp_value (ex_make (hob w1)) (hK _ _ ⟨_, rfl⟩ ((Below.refl _ _).alloc (Nat.le_refl _) _)))
    | 6, rfl =>
      obtain ⟨ob, hob⟩ := mk0 (P := Tryf.prog) 54 _ 128 Tryf.underlying54 (by kernel_rfl) (by omega)
      exact wpOp_plain rfl rfl (wp_value (ex_make (hob w1)) (hK _ _ ⟨_, rfl⟩ ((Below.refl _ _).alloc (Nat.le_refl _) _)))
    | 7, rfl =>
      obtain ⟨ob, hob⟩ := mk0 (P := Tryf.prog) 22 _ 16 Tryf.underlying22 (by kernel_rfl) (by omega)
      exact wpOp_plain rfl rfl (wp_value (ex_make (hob w1)) (hK _ _ ⟨_, rfl⟩ ((Below.refl _ _).alloc (Nat.le_refl _) _)))
    | 8, rfl =>
      obtain ⟨ob, hob⟩ := mk0 (P := Tryf.prog) 22 _ 32 Tryf.underlying22 (by kernel_rfl) (by omega)
      exact wpOp_plain rfl rfl (wp_value (ex_make (hob w1)) (hK _ _ ⟨_, rfl⟩ ((Below.refl _ _).alloc (Nat.le_refl _) _)))
    | 9, rfl =>
      have q0 : a.eval (.tmp 3) = .string s := hin ⟨0, .data⟩ (by simp) rfl
      obtain ⟨a1, q1⟩ : ∃ x, a.eval (.tmp 4) = .slice x 0 128 := hin ⟨1, .data⟩ (by simp) rfl
      obtain ⟨a2, q2⟩ : ∃ x, a.eval (.tmp 5) = .slice x 0 32 := hin ⟨2, .data⟩ (by simp) rfl
      obtain ⟨a3, q3⟩ : ∃ x, a.eval (.tmp 6) = .slice x 0 16 := hin ⟨3, .data⟩ (by simp) rfl
      obtain ⟨a4, q4⟩ : ∃ x, a.eval (.tmp 7) = .slice x 0 128 := hin ⟨4, .data⟩ (by simp) rfl
      obtain ⟨a5, q5⟩ : ∃ x, a.eval (.tmp 8) = .slice x 0 16 := hin ⟨5, .data⟩ (by simp) rfl
      obtain ⟨a6, q6⟩ : ∃ x, a.eval (.tmp 9) = .slice x 0 128 := hin ⟨6, .data⟩ (by simp) rfl
      obtain ⟨a7, q7⟩ : ∃ x, a.eval (.tmp 10) = .slice x 0 16 := hin ⟨7, .data⟩ (by simp) rfl
      obtain ⟨a8, q8⟩ : ∃ x, a.eval (.tmp 11) = .slice x 0 32 := hin ⟨8, .data⟩ (by simp) rfl
      exact wpOp_plain rfl rfl (wp_value (ex_build (by simp only [List.map_toArray, List.map_cons, List.map_nil, q0, q1, q2, q3, q4, q5, q6, q7, q8]; rfl) (buildP s a1 a2 a3 a4 a5 a6 a7 a8 w1)) (hK _ _ ⟨a1, a2, a3, a4, a5, a6, a7, a8, rfl⟩ (Below.refl _ _)))
    | 10, rfl =>
      obtain ⟨a1, a2, a3, a4, a5, a6, a7, a8, q9⟩ : ∃ a1 a2 a3 a4 a5 a6 a7 a8 : Option Addr, a.eval (.tmp 12) = .agg (pCells s a1 a2 a3 a4 a5 a6 a7 a8) := hin ⟨9, .data⟩ (by simp) rfl
      exact wpOp_plain rfl rfl (wp_value (ex_box (by rw [q9]; exact boxP s a1 a2 a3 a4 a5 a6 a7 a8 w1)) (hK _ _ ⟨w1.heap.size, rfl, hb.size, new0, Blk.new _ _ _⟩ ((Below.refl _ _).alloc (Nat.le_refl _) _)))
    | 11, rfl => exact wpOp_plain rfl rfl (wp_value (v := sl a 13) rfl (hK _ _ (hin ⟨10, .data⟩ (by simp) rfl) (Below.refl _ _)))
  · intro v w1 hp hb
    have e : fr [3, 4, 5, 6, 7, 8, 9, 10, 11, 12, 13, 2] v ⟨#[.string s, undef, .pointer none, undef, undef, undef, undef, undef, undef, undef, undef, undef, undef, undef], []⟩ = ⟨#[.string s, undef, v 11, v 0, v 1, v 2, v 3, v 4, v 5, v 6, v 7, v 8, v 9, v 10], []⟩ := rfl
    rw [e]
    have h11 : PtrTo w.heap.size (.string s) (v 11) w1 := hp 11 (by decide)
    clear hp e
    generalize v 0 = v0, v 1 = v1, v 2 = v2, v 3 = v3, v 4 = v4, v 5 = v5, v 6 = v6, v 7 = v7, v 8 = v8, v 9 = v9, v 10 = v10, v 11 = v11 at *
    go_wp2_with fail
    trace_state
    go_ret
    exact ⟨_, rfl, h11, hb⟩
end Go.Proofs.YtpkolfmdockdnaaFmt.inv
