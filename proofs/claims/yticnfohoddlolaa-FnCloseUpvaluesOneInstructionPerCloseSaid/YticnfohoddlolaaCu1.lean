/- The walk of FnCloseUpvaluesOneInstructionPerClose: the Go text returns true and writes nothing that was there. -/
import Derived.Test.YticnfohoddlolaaByCo
import Derived.Test.YticnfohoddlolaaFk
namespace Go.Proofs.Yticnfohoddlolaa.fnCloseUpvaluesOneInstructionPerClose
open Go.ChangeShapes Go.WideShapes Go.ChangeAt Go.RowKit
set_option linter.unusedVariables false

set_option maxHeartbeats 1600000 in
theorem walk (a0 : Bool) (a1 : Int) (a2 : Option Addr) (len2 cap2 : Nat) (z2 : List ByteArray) (a3 : Int) (a4 : Option Addr) (len4 cap4 : Nat) (z4 : List Int) (w : World) (w1 : (Lit.int .i64 a1).wf = true) (r2 : IsRow .string ByteArray.empty w a2 len2 cap2 z2) (w2 : ∀ z ∈ z2, z.size ≤ maxLen) (w3 : (Lit.int .i64 a3).wf = true) (r4 : IsRow (.int .u32) 0 w a4 len4 cap4 z4) (w4 : ∀ z ∈ z4, (Lit.int .u32 z).wf = true) :
    Calls Try.prog 4 #[.bool a0, .int .i64 a1, .slice a2 len2 cap2, .int .i64 a3, .slice a4 len4 cap4] w fun e w' => e = .returned (.bool true) ∧ Below w.heap.size w w' := by
  have hv1 := i64_bd w1
  have m4 := r4.2.1
  have m4' := r4.2.2.1
  have l4 := Lib.hid r4.1
  have l2 := Lib.hid r2.1
  unfold maxLen at m4'
  go_enter Try.func4, Try.ntmps4
  go_wp2_with fail
  refine (byFnCloseUpvaluesOneInstructionPerClose_any w a0 a1 a2 len2 cap2 z2 r2 w2 a3 a4 len4 cap4 (by omega)).mono ?_
  rintro e w1 ⟨b, rfl, hb, b1⟩
  have s1 := b1.size
  cases b with
  | false =>
    go_wp2
    go_ret
    exact ⟨rfl, b1⟩
  | true =>
  replace hb := hb rfl
  replace r2 := row_below r2 b1
  replace r4 := row_below r4 b1
  have B := b1
  clear b1
  by_cases g1 : (65536 : Int) < (len2 : Int)
  · go_wp2
    go_ret
    exact ⟨rfl, B⟩
  by_cases g2 : (65536 : Int) < (len4 : Int)
  · go_wp2
    go_ret
    exact ⟨rfl, B⟩
  go_wp2_with fail
  refine (strBytes_any a2 len2 cap2 z2 _ r2 (by omega)).mono ?_
  rintro e w2 ⟨rfl, b2⟩
  have s2 := b2.size
  replace r2 := row_below r2 b2
  replace r4 := row_below r4 b2
  replace B := bel_trans B b2 B.size
  clear b2
  generalize tot z2 len2 = t at *
  by_cases g3 : (1048576 : Int) < ((16 * len2 + t : Nat) : Int) + 16 * (len4 : Int)
  · go_wp2
    go_ret
    exact ⟨rfl, B⟩
  by_cases g4 : a1 < 0
  · go_wp2
    go_ret
    exact ⟨rfl, B⟩
  by_cases g5 : 1073741824 < a1
  · go_wp2
    go_ret
    exact ⟨rfl, B⟩
  go_wp2_with fail
  refine (cloneStr_any _ _ _ z2 _ r2 (by omega)).mono ?_
  rintro e w3 C
  obtain ⟨d2, rfl, -, -, b3⟩ := C.rng
  clear C r2
  have s3 := b3.size
  replace r4 := row_below r4 b3
  replace B := bel_trans B b3 B.size
  clear b3
  go_wp2_with fail
  refine (cloneU32_any _ _ _ z4 _ r4 (by omega)).mono ?_
  rintro e w4 C
  obtain ⟨d4, rfl, g4', rg4, b4⟩ := C.rng
  clear C r4
  have s4 := b4.size
  replace B := bel_trans B b4 B.size
  clear b4
  have hmk := run_make_row' (P := Try.prog) 23 3 (.int .i64 0) 8 Try.underlying23 infocloneInt rfl .i64 .i64 len4 (by omega) (by omega)
  go_wp2_with fail
  have gm := made_got w4 len4
  have bm : Below w4.heap.size w4 (w4.alloc (.cells (madeCells #[.int .i64 0] len4) 3)) := (Below.refl w4.heap.size w4).alloc (Nat.le_refl _) _
  replace g4' := got_below g4' bm
  replace B := bel_trans B bm B.size
  have s5 := bm.size
  obtain ⟨w5, h5⟩ : ∃ v, w4.alloc (.cells (madeCells #[.int .i64 0] len4) 3) = v := ⟨_, rfl⟩
  have rgm : w4.heap.size < (w4.alloc (.cells (madeCells #[.int .i64 0] len4) 3)).heap.size := by simp
  obtain ⟨cm, hcm⟩ : ∃ c, w4.heap.size = c := ⟨_, rfl⟩
  have wm : w.heap.size ≤ w4.heap.size := by omega
  rw [hcm] at gm rgm wm ⊢
  rw [h5] at gm g4' B s5 rgm ⊢
  clear h5 hmk bm
  refine (newFC_any a0 a1 d2 none d4 (some ⟨cm, 0, none⟩) none len2 0 len4 len4 0 len2 0 len4 len4 0 a3 0 _ (by omega) (by omega) (by omega) (by omega) (by omega)).mono ?_
  rintro e w6 ⟨rfl, F, T, sz, b6⟩
  replace gm := got_below gm b6
  replace g4' := got_below g4' b6
  replace B := bel_trans B b6 B.size
  have s6 := b6.size
  clear b6
  obtain ⟨h, hh⟩ : ∃ h, w5.heap.size = h := ⟨_, rfl⟩
  rw [hh] at F T sz rgm ⊢
  have wh : w.heap.size ≤ h := by omega
  have OC := own_of_got (B := w.heap.size) g4' l4.out (by omega) (by omega)
  have OL := own_of_got (B := w.heap.size) gm (by simp) (by omega) wm
  clear gm g4' hh hcm
  cases a0 with
  | false =>
    go_wp2_with fail
    refine (closeNo_any _ F).mono ?_
    rintro e w' ⟨rfl, rfl⟩
    go_wp2_with fail
    refine (codePC_any (.int .i64 len4) _ F (T.cell (i := 2) (by omega))).mono ?_
    rintro e w' ⟨rfl, rfl⟩
    go_wp2_with fail
    refine (closeNo_any _ F).mono ?_
    rintro e w' ⟨rfl, rfl⟩
    go_wp2_with fail
    refine (codePC_any (.int .i64 len4) _ F (T.cell (i := 2) (by omega))).mono ?_
    rintro e w' ⟨rfl, rfl⟩
    go_wp2_with fail
    go_ret
    exact ⟨rfl, B⟩
  | true =>
    go_wp2_with fail
    refine (closeYes_any w.heap.size len4 len4 _ _ _ _ _ _ _ F (by omega) (by omega) (by omega) T OC OL (by omega) (Nat.le_refl _) B.size).mono ?_
    rintro e w7 ⟨rfl, -, x7, y7, p7, q7, T7, OC7, OL7, K7⟩
    have F7 := F.kept OC OL K7
    have B7 := B.trans (K7.bel OC OL (by omega) B.size)
    rw [nAt_self] at T7 OC7 OL7
    rw [putAt_map (Value.int .u32)] at OC7
    rw [putAt_map (Value.int .i64)] at OL7
    obtain ⟨v, hv⟩ : ∃ v, createv 38 (a1 + len2) 0 0 = v := ⟨_, rfl⟩
    rw [hv] at OC7
    clear F B T OC OL K7
    go_wp2_with fail
    refine (codePC_any (.int .i64 ((len4 : Int) + 1)) _ F7 (T7.cell (i := 2) (by omega))).mono ?_
    rintro e w' ⟨rfl, rfl⟩
    go_wp2_with fail
    refine (closeYes_any w.heap.size (len4 + 1) (len4 + 1) _ _ p7 q7 _ _ _ F7 (by omega) (by omega) (by omega) T7 OC7 OL7 (by omega) (Nat.le_refl _) B7.size).mono ?_
    rintro e w8 ⟨rfl, -, x8, y8, p8, q8, T8, OC8, OL8, K8⟩
    have F8 := F7.kept OC7 OL7 K8
    have B8 := B7.trans (K8.bel OC7 OL7 (by omega) B7.size)
    rw [nAt_self] at T8 OC8 OL8
    rw [putAt_map (Value.int .u32), hv] at OC8
    rw [show ((len4 + 1 : Nat) : Int) = (len4 : Int) + 1 from by omega] at T8
    have RC := row_of_own (d := 0) OC8
    have lz : (putAt z4 len4 len4 v).length = len4 + 1 := by rw [putAt_len z4 len4 len4 v l4.out, nAt_self]
    have e1 : w8.cell? ⟨x8, len4, none⟩ = some (.int .u32 v) := by
      have := row_cell RC (i := len4) (by omega)
      rw [putAt_other v lz (show len4 < len4 + 1 by omega) (show len4 ≠ len4 + 1 by omega), putAt_self v l4.out (Nat.le_refl _)] at this
      exact this
    have e2 : w8.cell? ⟨x8, len4 + 1, none⟩ = some (.int .u32 v) := by
      have := row_cell RC (i := len4 + 1) (by omega)
      rw [putAt_self v lz (Nat.le_refl _)] at this
      exact this
    clear F7 B7 T7 OC7 OL7 OC8 OL8 K8 RC lz hv
    go_wp2_with fail
    refine (codePC_any (.int .i64 ((len4 : Int) + 1 + 1)) _ F8 (T8.cell (i := 2) (by omega))).mono ?_
    rintro e w' ⟨rfl, rfl⟩
    have hne : (a1 + (len2 : Int) == -1) = false := by simp; omega
    have hge : decide (0 ≤ a1 + (len2 : Int)) = true := by simp; omega
    go_wp2_with fail
    refine (codeAt_any x8 (len4 + 1 + 1) p8 len4 (.int .u32 v) _ F8 (T8.cell (i := 0) (by omega)) (by omega) e1).mono ?_
    rintro e w' ⟨rfl, rfl⟩
    go_wp2_with fail
    refine (codeAt_any x8 (len4 + 1 + 1) p8 (len4 + 1) (.int .u32 v) _ F8 (T8.cell (i := 0) (by omega)) (by omega) e2).mono ?_
    rintro e w' ⟨rfl, rfl⟩
    go_wp2_with fail
    go_ret
    exact ⟨rfl, B8⟩
end Go.Proofs.Yticnfohoddlolaa.fnCloseUpvaluesOneInstructionPerClose
