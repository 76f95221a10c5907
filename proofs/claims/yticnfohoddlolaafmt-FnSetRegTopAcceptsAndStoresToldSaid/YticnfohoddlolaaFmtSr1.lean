/- The walk of FnSetRegTopAcceptsAndStores: the Go text returns true and writes nothing that was there. -/
import Derived.Test.YticnfohoddlolaaFmtEr
namespace Go.Proofs.YticnfohoddlolaaFmt.fnSetRegTopAcceptsAndStores
open Go.ChangeShapes Go.WideShapes Go.ChangeAt Go.RowKit
set_option linter.unusedVariables false
set_option maxRecDepth 100000

set_option maxHeartbeats 2000000 in
theorem main (a0 a1 : Int) (w : World) (ht : a1 ≤ 200) :
    Calls Tryf.prog 4 #[.int .i64 a0, .int .i64 a1] w fun e w' => e = .returned (.bool true) ∧ Below w.heap.size w w' := by
  have hd : decide (200 < a1) = false := by simp; omega
  go_enter Tryf.func4, Tryf.ntmps4
  go_wp2_with fail
  have p0 := lf_at w [.int .u32 7, .int .u32 9] 36 _ rfl
  have p1 := ((p0.alloc (.cells #[.string ⟨#[97]⟩] 9)).alloc (.cells #[.string ⟨#[98]⟩] 9)).alloc (.cells #[.int .i64 1, .int .i64 2] 3)
  have q0 := lf_at (((w.alloc (.cells #[.int .u32 7, .int .u32 9] 36)).alloc (.cells #[.string ⟨#[97]⟩] 9)).alloc (.cells #[.string ⟨#[98]⟩] 9)) [.int .i64 1, .int .i64 2] 3 _ rfl
  have b0 : Below w.heap.size w ((((w.alloc (.cells #[.int .u32 7, .int .u32 9] 36)).alloc (.cells #[.string ⟨#[97]⟩] 9)).alloc (.cells #[.string ⟨#[98]⟩] 9)).alloc (.cells #[.int .i64 1, .int .i64 2] 3)) := by
    repeat (first | exact Below.refl _ _ | (refine Below.alloc ?_ (by simp <;> omega) _))
  simp only [World.size_alloc] at q0
  obtain ⟨w0, h0⟩ : ∃ v, (((w.alloc (.cells #[.int .u32 7, .int .u32 9] 36)).alloc (.cells #[.string ⟨#[97]⟩] 9)).alloc (.cells #[.string ⟨#[98]⟩] 9)).alloc (.cells #[.int .i64 1, .int .i64 2] 3) = v := ⟨_, rfl⟩
  have z0 : w.heap.size + 4 ≤ ((((w.alloc (.cells #[.int .u32 7, .int .u32 9] 36)).alloc (.cells #[.string ⟨#[97]⟩] 9)).alloc (.cells #[.string ⟨#[98]⟩] 9)).alloc (.cells #[.int .i64 1, .int .i64 2] 3)).heap.size := by simp
  replace q0 := show World.rowIs _ (w.heap.size + 1 + 1 + 1) 3 2 _ from q0
  replace p1 := show World.rowIs _ w.heap.size 36 2 _ from p1
  obtain ⟨H0, hH⟩ : ∃ H, w.heap.size = H := ⟨_, rfl⟩
  rw [hH] at p1 q0 z0 ⊢
  rw [h0] at p1 q0 b0 z0 ⊢
  have wH : w.heap.size ≤ H0 := by omega
  clear h0 hH p0
  refine (newFC_any true 3 _ _ _ _ none 1 1 2 2 0 1 1 2 2 0 5 a0 _ (by omega) (by omega) (by omega) (by omega) (by omega)).mono ?_
  rintro e w1 ⟨rfl, F, T, sz, b1⟩
  obtain ⟨h, hh⟩ : ∃ h, w0.heap.size = h := ⟨_, rfl⟩
  have P1 := Lib.hid (rowIs_below b1 (by omega) p1)
  have Q1 := Lib.hid (rowIs_below b1 (by omega) q0)
  have B1 := bel_trans b0 b1 b0.size
  rw [hh] at F T sz z0 ⊢
  have FH := Lib.hid F
  have TH := Lib.hid T
  have zh : h + 10 ≤ w1.heap.size := by omega
  clear F T sz b1 p1 q0 b0 hh
  go_wp2_with fail
  refine (setRegTop_any a1 _ FH.out ht).mono ?_
  rintro e w2 ⟨rfl, hw2⟩
  have F2 := Lib.hid (FH.out.setRt a1)
  have T2 := Lib.hid (TH.out.setOther (a := ⟨h + 9, 6, none⟩) (show h + 5 ≠ h + 9 by omega) (.int .i64 a1))
  have P2 := Lib.hid (P1.out.setOther (a := ⟨h + 9, 6, none⟩) (show H0 ≠ h + 9 by omega) (.int .i64 a1))
  have Q2 := Lib.hid (Q1.out.setOther (a := ⟨h + 9, 6, none⟩) (show H0 + 1 + 1 + 1 ≠ h + 9 by omega) (.int .i64 a1))
  have B2 := B1.setCell (p := ⟨h + 9, 6, none⟩) (show w.heap.size ≤ h + 9 by omega) (.int .i64 a1)
  rw [hw2] at F2 T2 P2 Q2 B2
  clear FH TH P1 Q1 B1 hw2
  go_wp2_with fail
  refine (regTop_any _ F2.out).mono ?_
  rintro e w' ⟨rfl, rfl⟩
  go_wp2_with fail
  refine (codePC_any (.int .i64 2) _ F2.out (T2.out.cell (i := 2) (by omega))).mono ?_
  rintro e w' ⟨rfl, rfl⟩
  go_wp2_with fail
  refine (hasParent_any _ F2.out).mono ?_
  rintro e w' ⟨rfl, rfl⟩
  go_wp2_with fail
  refine (blockLast_any 5 _ F2.out (by omega) (by omega) (by omega) (by omega) (by decide)).mono ?_
  rintro e w3 ⟨rfl, k, hw3⟩
  have F3 := Lib.hid (F2.out.drewN k)
  have T3 := Lib.hid (show (w2.drewN k).rowIs (h + 5) 63 3 _ from T2.out)
  have P3 := Lib.hid (show (w2.drewN k).rowIs H0 36 2 _ from P2.out)
  have Q3 := Lib.hid (show (w2.drewN k).rowIs (H0 + 1 + 1 + 1) 3 2 _ from Q2.out)
  have B3 := below_drewN B2 k
  rw [hw3] at F3 T3 P3 Q3 B3
  clear F2 T2 P2 Q2 B2 hw3
  go_wp2_with fail
  refine (codeAt_any H0 2 2 0 (.int .u32 7) _ F3.out (T3.out.cell (i := 0) (by omega)) (by omega) (P3.out.cell (i := 0) (by omega))).mono ?_
  rintro e w' ⟨rfl, rfl⟩
  go_wp2_with fail
  refine (codeAt_any H0 2 2 1 (.int .u32 9) _ F3.out (T3.out.cell (i := 0) (by omega)) (by omega) (P3.out.cell (i := 1) (by omega))).mono ?_
  rintro e w' ⟨rfl, rfl⟩
  go_wp2_with fail
  refine (lineAt_any (H0 + 1 + 1 + 1) 2 2 0 (.int .i64 1) _ F3.out (T3.out.cell (i := 1) (by omega)) (by omega) (Q3.out.cell (i := 0) (by omega))).mono ?_
  rintro e w' ⟨rfl, rfl⟩
  go_wp2_with fail
  refine (lineAt_any (H0 + 1 + 1 + 1) 2 2 1 (.int .i64 2) _ F3.out (T3.out.cell (i := 1) (by omega)) (by omega) (Q3.out.cell (i := 1) (by omega))).mono ?_
  rintro e w' ⟨rfl, rfl⟩
  go_wp2_with fail
  go_ret
  exact ⟨rfl, B3⟩

set_option maxHeartbeats 1000000 in
theorem walk (a0 : Int) (a1 : Int) (w : World) (w0 : (Lit.int .i64 a0).wf = true) (w1 : (Lit.int .i64 a1).wf = true) :
    Calls Tryf.prog 4 #[.int .i64 a0, .int .i64 a1] w fun e w' => e = .returned (.bool true) ∧ Below w.heap.size w w' := by
  have hv0 := i64_bd w0
  have hv1 := i64_bd w1
  by_cases g1 : 200 < a1
  · go_enter Tryf.func4, Tryf.ntmps4
    go_wp2_with fail
    go_ret
    exact ⟨rfl, Below.refl _ _⟩
  exact main a0 a1 w (by omega)
end Go.Proofs.YticnfohoddlolaaFmt.fnSetRegTopAcceptsAndStores
