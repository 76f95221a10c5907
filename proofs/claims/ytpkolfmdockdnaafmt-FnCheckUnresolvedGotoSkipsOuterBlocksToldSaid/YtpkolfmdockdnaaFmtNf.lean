/- newFuncContext (n005_54). -/
import Derived.Test.YtpkolfmdockdnaaFmtNp
import Derived.Test.YtpkolfmdockdnaaFmtPool
namespace Go.Proofs.YtpkolfmdockdnaaFmt.inv
open Go.ChangeShapes Go.WideShapes Go.ChangeAt Go.RowKit
set_option linter.unusedVariables false
set_option maxRecDepth 100000

def APtr (B : Nat) (v : Value) (w : World) : Prop := ∃ q, v = .pointer (some ⟨q, 0, none⟩) ∧ B ≤ q ∧ Blk w q

theorem block0_any (p : Nat) (w : World) : Calls Tryf.prog 18 #[.pointer (some ⟨p, 0, none⟩), .int .i64 0, .pointer none, .nilIface, .int .i64 0] w fun e w' => ∃ v, e = .returned v ∧ APtr w.heap.size v w' ∧ Below w.heap.size w w' := by
  have hmm := @run_makeMap Tryf.prog
  go_enter Tryf.func18, Tryf.ntmps18
  go_wp2_with fail
  go_ret
  exact ⟨_, rfl, ⟨w.heap.size + 1, rfl, by omega, by have := Blk.new (w.alloc (.map #[] 0)) #[.pointer (some ⟨p, 0, none⟩), .int .i64 0, .pointer none, .bool false, .int .i64 0, .int .i64 0, .map (some w.heap.size), .int .i64 0] 46; rw [World.size_alloc] at this; exact this⟩, ((Below.refl w.heap.size w).alloc (Nat.le_refl _) _).alloc (by simp) _⟩

abbrev fcCells (pP pC : Nat) (x : Option Addr) (pL pB : Nat) (m1 m2 : Nat) : List Value := [.pointer (some ⟨pP, 0, none⟩), .pointer (some ⟨pC, 0, none⟩), .pointer x, .pointer (some ⟨pL, 0, none⟩), .pointer (some ⟨pB, 0, none⟩), .slice none 0 0, .int .i64 0, .int .i64 1, .map (some m1), .int .i64 0, .map (some m2)]
theorem buildC (a1 a2 : Option Addr) (w : World) : (Instr.build 59 #[(0, .slice a1 0 1024), (1, .slice a2 0 1024), (2, .int .i64 0)]).run Tryf.prog w = .ok (.agg #[.slice a1 0 1024, .slice a2 0 1024, .int .i64 0]) w := by kernel_rfl
theorem boxC (a1 a2 : Option Addr) (w : World) : (Instr.box 59 (.agg #[.slice a1 0 1024, .slice a2 0 1024, .int .i64 0])).run Tryf.prog w = .ok (.pointer (some ⟨w.heap.size, 0, none⟩)) (w.alloc (.cells #[.slice a1 0 1024, .slice a2 0 1024, .int .i64 0] 59)) := by kernel_rfl
theorem buildF (pP pC : Nat) (x : Option Addr) (pL pB m1 m2 : Nat) (w : World) : (Instr.build 42 #[(0, .pointer (some ⟨pP, 0, none⟩)), (1, .pointer (some ⟨pC, 0, none⟩)), (2, .pointer x), (3, .pointer (some ⟨pL, 0, none⟩)), (4, .pointer (some ⟨pB, 0, none⟩)), (6, .int .i64 0), (7, .int .i64 1), (8, .map (some m1)), (9, .int .i64 0), (10, .map (some m2))]).run Tryf.prog w = .ok (.agg (fcCells pP pC x pL pB m1 m2).toArray) w := by kernel_rfl
theorem boxF (pP pC : Nat) (x : Option Addr) (pL pB m1 m2 : Nat) (w : World) : (Instr.box 42 (.agg (fcCells pP pC x pL pB m1 m2).toArray)).run Tryf.prog w = .ok (.pointer (some ⟨w.heap.size, 0, none⟩)) (w.alloc (.cells (fcCells pP pC x pL pB m1 m2).toArray 42)) := by kernel_rfl

/-- What the new context's parts are. -/
structure Parts (B : Nat) (s : ByteArray) (pP pB m2 : Nat) (w : World) : Prop where
  pGe : B ≤ pP
  pS : w.cell? ⟨pP, 0, none⟩ = some (.string s)
  bGe : B ≤ pB
  bK : Blk w pB
  pK : Blk w pP
  mGe : B ≤ m2
  mE : w.heap[m2]? = some (.map #[] 0)
theorem Parts.below {B : Nat} {s : ByteArray} {pP pB m2 : Nat} {w w' : World} (h : Parts B s pP pB m2 w) (b : Below w.heap.size w w') : Parts B s pP pB m2 w' :=
  ⟨h.pGe, (b.cell (cell_block_lt h.pS)).trans h.pS, h.bGe, h.bK.below b, h.pK.below b, h.mGe, (b.block m2 (heap_lt h.mE)).trans h.mE⟩
def Ctx (B : Nat) (s : ByteArray) (x : Option Addr) (v : Value) (w : World) : Prop :=
  ∃ F pP pC pL pB m1 m2, v = .pointer (some ⟨F, 0, none⟩) ∧ B ≤ F ∧ w.rowIs F 42 11 (lf (fcCells pP pC x pL pB m1 m2)) ∧ Parts B s pP pB m2 w
def fPost (B : Nat) (s : ByteArray) (x : Option Addr) : Nat → Value → World → Prop
  | 0, v, _ => v = .string s
  | 1, v, w => PtrTo B (.string s) v w
  | 2, v, _ => E0 1024 v
  | 3, v, _ => E0 1024 v
  | 4, v, _ => ∃ a1 a2 : Option Addr, v = .agg #[.slice a1 0 1024, .slice a2 0 1024, .int .i64 0]
  | 5, v, _ => ∃ q, v = .pointer (some ⟨q, 0, none⟩)
  | 6, v, _ => v = .pointer x
  | 7, v, _ => ∃ q, v = .pointer (some ⟨q, 0, none⟩)
  | 8, v, _ => ∃ q, v = .pointer (some ⟨q, 0, none⟩)
  | 9, v, w => APtr B v w
  | 10, v, _ => ∃ m, v = .map (some m)
  | 11, v, w => ∃ m, v = .map (some m) ∧ B ≤ m ∧ w.heap[m]? = some (.map #[] 0)
  | 12, v, w => ∃ pP pC pL pB m1 m2, v = .agg (fcCells pP pC x pL pB m1 m2).toArray ∧ Parts B s pP pB m2 w
  | _, v, w => Ctx B s x v w
theorem fPost_stays (B : Nat) (s : ByteArray) (x : Option Addr) : ∀ i v w w', fPost B s x i v w → Below w.heap.size w w' → fPost B s x i v w' := by
  intro i v w w' h b
  match i, h with
  | 0, h => exact h
  | 1, ⟨q, e, hq, hc, hk⟩ => exact ⟨q, e, hq, (b.cell (cell_block_lt hc)).trans hc, hk.below b⟩
  | 2, h => exact h
  | 3, h => exact h
  | 4, h => exact h
  | 5, h => exact h
  | 6, h => exact h
  | 7, h => exact h
  | 8, h => exact h
  | 9, ⟨q, e, h1, h2⟩ => exact ⟨q, e, h1, h2.below b⟩
  | 10, h => exact h
  | 11, ⟨m, e, hq, hc⟩ => exact ⟨m, e, hq, (b.block m (heap_lt hc)).trans hc⟩
  | 12, ⟨pP, pC, pL, pB, m1, m2, e, hp⟩ => exact ⟨pP, pC, pL, pB, m1, m2, e, hp.below b⟩
  | n + 13, ⟨F, pP, pC, pL, pB, m1, m2, e, hF, hr, hp⟩ => exact ⟨F, pP, pC, pL, pB, m1, m2, e, hF, rowIs_below b hr.lt hr, hp.below b⟩

set_option maxHeartbeats 2000000 in
theorem fc_any (s : ByteArray) (x : Option Addr) (w : World) : Calls Tryf.prog 12 #[.string s, .pointer x] w fun e w' => ∃ F pP pC pL pB m1 m2 sB, e = .returned (.pointer (some ⟨F, 0, none⟩)) ∧ w.heap.size ≤ F ∧ w.heap.size ≤ sB ∧ w'.rowIs F 42 11 (lf [.pointer (some ⟨pP, 0, none⟩), .pointer (some ⟨pC, 0, none⟩), .pointer x, .pointer (some ⟨pL, 0, none⟩), .pointer (some ⟨pB, 0, none⟩), .slice (some ⟨sB, 0, none⟩) 1 1, .int .i64 0, .int .i64 1, .map (some m1), .int .i64 0, .map (some m2)]) ∧ w'.rowIs sB 38 1 (lf [.pointer (some ⟨pB, 0, none⟩)]) ∧ Parts w.heap.size s pP pB m2 w' ∧ Below w.heap.size w w' := by
  go_enter Tryf.func12, Tryf.ntmps12
  go_wp2_with fail
  refine region_inv [6, 7, 8, 9, 10, 11, 12, 13, 14, 15, 16, 17, 18, 19, 5] (fPost w.heap.size s x) _ w (by kernel_rfl) rfl ?_ (by decide) (by intro d hd; simp at hd; simp; omega) ?_ (fPost_stays _ _ _) ?_ ?_
  · intro i o ho
    match i, ho with
    | 0, rfl => rfl
    | 1, rfl => rfl
    | 2, rfl => rfl
    | 3, rfl => rfl
    | 4, rfl => rfl
    | 5, rfl => rfl
    | 6, rfl => rfl
    | 7, rfl => rfl
    | 8, rfl => rfl
    | 9, rfl => rfl
    | 10, rfl => rfl
    | 11, rfl => rfl
    | 12, rfl => rfl
    | 13, rfl => rfl
    | 14, rfl => rfl
  · intro i o ho
    match i, ho with
    | 0, rfl => decide
    | 1, rfl => decide
    | 2, rfl => decide
    | 3, rfl => decide
    | 4, rfl => decide
    | 5, rfl => decide
    | 6, rfl => decide
    | 7, rfl => decide
    | 8, rfl => decide
    | 9, rfl => decide
    | 10, rfl => decide
    | 11, rfl => decide
    | 12, rfl => decide
    | 13, rfl => decide
    | 14, rfl => decide
  · intro i o ho a w1 K hb hoff hin hK
    have hsz : w.heap.size ≤ w1.heap.size := hb.size
    match i, ho with
    | 0, rfl => exact wpOp_plain rfl rfl (wp_value (v := sl a 0) rfl (hK _ _ (hoff 0 (by decide)) (Below.refl _ _)))
    | 1, rfl =>
      have q0 : a.eval (.tmp 6) = .string s := hin ⟨0, .data⟩ (by simp) rfl
      refine wpOp_plain rfl rfl (wp_call (vs := #[.string s]) (by rw [← q0]; kernel_rfl) (proto_any s w1) ?_)
      rintro e w2 ⟨v, rfl, ⟨q, e1, hq, hc, hk⟩, b⟩
      exact ⟨v, rfl, hK _ _ ⟨q, e1, by omega, hc, hk⟩ b⟩
    | 2, rfl =>
      obtain ⟨ob, hob⟩ := mk0 (P := Tryf.prog) 49 _ 1024 Tryf.underlying49 (by kernel_rfl) (by omega)
      exact wpOp_plain rfl rfl (wp_value (ex_make (hob w1)) (hK _ _ ⟨_, rfl⟩ ((Below.refl _ _).alloc (Nat.le_refl _) _)))
    | 3, rfl =>
      obtain ⟨ob, hob⟩ := mk0 (P := Tryf.prog) 52 _ 1024 Tryf.underlying52 (by kernel_rfl) (by omega)
      exact wpOp_plain rfl rfl (wp_value (ex_make (hob w1)) (hK _ _ ⟨_, rfl⟩ ((Below.refl _ _).alloc (Nat.le_refl _) _)))
    | 4, rfl =>
      obtain ⟨a1, q1⟩ : ∃ x, a.eval (.tmp 8) = .slice x 0 1024 := hin ⟨2, .data⟩ (by simp) rfl
      obtain ⟨a2, q2⟩ : ∃ x, a.eval (.tmp 9) = .slice x 0 1024 := hin ⟨3, .data⟩ (by simp) rfl
      exact wpOp_plain rfl rfl (wp_value (ex_build (by simp only [List.map_toArray, List.map_cons, List.map_nil, q1, q2]; rfl) (buildC a1 a2 w1)) (hK _ _ ⟨a1, a2, rfl⟩ (Below.refl _ _)))
    | 5, rfl =>
      obtain ⟨a1, a2, q1⟩ : ∃ a1 a2 : Option Addr, a.eval (.tmp 10) = .agg #[.slice a1 0 1024, .slice a2 0 1024, .int .i64 0] := hin ⟨4, .data⟩ (by simp) rfl
      exact wpOp_plain rfl rfl (wp_value (ex_box (by rw [q1]; exact boxC a1 a2 w1)) (hK _ _ ⟨_, rfl⟩ ((Below.refl _ _).alloc (Nat.le_refl _) _)))
    | 6, rfl => exact wpOp_plain rfl rfl (wp_value (v := sl a 1) rfl (hK _ _ (hoff 1 (by decide)) (Below.refl _ _)))
    | 7, rfl =>
      refine wpOp_plain rfl rfl (wp_call (vs := #[.int .i64 0]) (by kernel_rfl) (newPool_any 0 w1) ?_)
      rintro e w2 ⟨rfl, _, _, b⟩
      exact ⟨_, rfl, hK _ _ ⟨_, rfl⟩ b⟩
    | 8, rfl =>
      refine wpOp_plain rfl rfl (wp_call (vs := #[.int .i64 0]) (by kernel_rfl) (newPool_any 0 w1) ?_)
      rintro e w2 ⟨rfl, _, _, b⟩
      exact ⟨_, rfl, hK _ _ ⟨_, rfl⟩ b⟩
    | 9, rfl =>
      obtain ⟨q, q1⟩ : ∃ q, a.eval (.tmp 14) = .pointer (some ⟨q, 0, none⟩) := hin ⟨8, .data⟩ (by simp) rfl
      refine wpOp_plain rfl rfl (wp_call (vs := #[.pointer (some ⟨q, 0, none⟩), .int .i64 0, .pointer none, .nilIface, .int .i64 0]) (by rw [← q1]; kernel_rfl) (block0_any q w1) ?_)
      rintro e w2 ⟨v, rfl, ⟨q, e1, hq, hq2⟩, b⟩
      exact ⟨v, rfl, hK _ _ ⟨q, e1, by omega, hq2⟩ b⟩
    | 10, rfl => exact wpOp_plain rfl rfl (wp_value ex_map (hK _ _ ⟨_, rfl⟩ ((Below.refl _ _).alloc (Nat.le_refl _) _)))
    | 11, rfl => exact wpOp_plain rfl rfl (wp_value ex_map (hK _ _ ⟨_, rfl, hsz, (MapKept.heap_alloc w1 _).1⟩ ((Below.refl _ _).alloc (Nat.le_refl _) _)))
    | 12, rfl =>
      obtain ⟨pP, q0, hP, hS, hPk⟩ : PtrTo w.heap.size (.string s) (a.eval (.tmp 7)) w1 := hin ⟨1, .data⟩ (by simp) rfl
      obtain ⟨pC, q1⟩ : ∃ q, a.eval (.tmp 11) = .pointer (some ⟨q, 0, none⟩) := hin ⟨5, .data⟩ (by simp) rfl
      have q2 : a.eval (.tmp 12) = .pointer x := hin ⟨6, .data⟩ (by simp) rfl
      obtain ⟨pL, q3⟩ : ∃ q, a.eval (.tmp 13) = .pointer (some ⟨q, 0, none⟩) := hin ⟨7, .data⟩ (by simp) rfl
      obtain ⟨pB, q4, hB, hBl⟩ : APtr w.heap.size (a.eval (.tmp 15)) w1 := hin ⟨9, .data⟩ (by simp) rfl
      obtain ⟨m1, q5⟩ : ∃ m, a.eval (.tmp 16) = .map (some m) := hin ⟨10, .data⟩ (by simp) rfl
      obtain ⟨m2, q6, hm, hM⟩ : ∃ m, a.eval (.tmp 17) = .map (some m) ∧ w.heap.size ≤ m ∧ w1.heap[m]? = some (.map #[] 0) := hin ⟨11, .data⟩ (by simp) rfl
      exact wpOp_plain rfl rfl (wp_value (ex_build (by simp only [List.map_toArray, List.map_cons, List.map_nil, q0, q1, q2, q3, q4, q5, q6]; rfl) (buildF pP pC x pL pB m1 m2 w1)) (hK _ _ ⟨pP, pC, pL, pB, m1, m2, rfl, hP, hS, hB, hBl, hPk, hm, hM⟩ (Below.refl _ _)))
    | 13, rfl =>
      obtain ⟨pP, pC, pL, pB, m1, m2, q9, hp⟩ : ∃ pP pC pL pB m1 m2, a.eval (.tmp 18) = .agg (fcCells pP pC x pL pB m1 m2).toArray ∧ Parts w.heap.size s pP pB m2 w1 := hin ⟨12, .data⟩ (by simp) rfl
      exact wpOp_plain rfl rfl (wp_value (ex_box (by rw [q9]; exact boxF pP pC x pL pB m1 m2 w1)) (hK _ _ ⟨w1.heap.size, pP, pC, pL, pB, m1, m2, rfl, hsz, lf_at w1 _ _ _ rfl, hp.below ((Below.refl _ _).alloc (Nat.le_refl _) _)⟩ ((Below.refl _ _).alloc (Nat.le_refl _) _)))
    | 14, rfl => exact wpOp_plain rfl rfl (wp_value (v := sl a 19) rfl (hK _ _ (hin ⟨13, .data⟩ (by simp) rfl) (Below.refl _ _)))
  · intro v w1 hp hb
    have e : fr [6, 7, 8, 9, 10, 11, 12, 13, 14, 15, 16, 17, 18, 19, 5] v ⟨#[.string s, .pointer x, undef, undef, .pointer none, undef, undef, undef, undef, undef, undef, undef, undef, undef, undef, undef, undef, undef, undef, undef, undef, undef, undef, undef, undef, undef, undef, undef, undef], []⟩ = ⟨#[.string s, .pointer x, undef, undef, .pointer none, v 14, v 0, v 1, v 2, v 3, v 4, v 5, v 6, v 7, v 8, v 9, v 10, v 11, v 12, v 13, undef, undef, undef, undef, undef, undef, undef, undef, undef], []⟩ := rfl
    rw [e]
    obtain ⟨F, pP, pC, pL, pB, m1, m2, e1, hF, hr, hpt⟩ : Ctx w.heap.size s x (v 14) w1 := hp 14 (by decide)
    rw [e1]
    clear hp e e1
    generalize v 0 = v0, v 1 = v1, v 2 = v2, v 3 = v3, v 4 = v4, v 5 = v5, v 6 = v6, v 7 = v7, v 8 = v8, v 9 = v9, v 10 = v10, v 11 = v11, v 12 = v12, v 13 = v13
    have h4 : w1.cell? ⟨F, 4, none⟩ = some (.pointer (some ⟨pB, 0, none⟩)) := hr.cell (i := 4) (by simp)
    have h5 : w1.cell? ⟨F, 5, none⟩ = some (.slice none 0 0) := hr.cell (i := 5) (by simp)
    have hl := hr.lt
    have hl1 : F < w1.heap.size + 1 := by omega
    have hfz := hr.frozen 5
    go_wp2_with fail
    go_ret
    refine ⟨F, pP, pC, pL, pB, m1, m2, w1.heap.size, rfl, hF, hb.size, ?_, ?_, ?_, ?_⟩
    · refine World.rowIs.alloc ((hr.set 5 _).congr fun i hi => ?_) _
      match i, hi with
      | 0, _ => rfl
      | 1, _ => rfl
      | 2, _ => rfl
      | 3, _ => rfl
      | 4, _ => rfl
      | 5, _ => rfl
      | 6, _ => rfl
      | 7, _ => rfl
      | 8, _ => rfl
      | 9, _ => rfl
      | 10, _ => rfl
    · exact lf_at _ [_] _ _ (by simp)
    · have e : ∀ k, k < w1.heap.size → k ≠ F → ((w1.setCell ⟨F, 5, none⟩ (.slice (some ⟨w1.heap.size, 0, none⟩) 1 1)).alloc (.cells #[.pointer (some ⟨pB, 0, none⟩)] 38)).heap[k]? = w1.heap[k]? := fun k hk hne =>
        (Below.heap_alloc _ _ k (by simpa using hk)).trans (Below.heap_setCell _ _ _ _ hne)
      have n1 : pP ≠ F := by
        rintro rfl
        have h0 := hr.cell (i := 0) (by simp)
        rw [hpt.pS] at h0
        simp [lf] at h0
      have n2 : m2 ≠ F := by
        rintro rfl
        obtain ⟨cs, hc, _⟩ := hr
        rw [hpt.mE] at hc
        cases hc
      exact ⟨hpt.pGe, (World.cell?_of_block (a := ⟨pP, 0, none⟩) (e pP (cell_block_lt hpt.pS) n1)).trans hpt.pS, hpt.bGe, (hpt.bK.set _ _).below ((Below.refl _ _).alloc (Nat.le_refl _) _), (hpt.pK.set _ _).below ((Below.refl _ _).alloc (Nat.le_refl _) _), hpt.mGe, (e m2 (heap_lt hpt.mE) n2).trans hpt.mE⟩
    · exact (hb.setCell (p := ⟨F, 5, none⟩) hF _).alloc (by have := hb.size; simp; omega) _
end Go.Proofs.YtpkolfmdockdnaaFmt.inv
