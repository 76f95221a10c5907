/- The walk of FnResizeRefusesBeyondMaxAndIsMonotone: the Go text returns true and writes nothing that was there. -/
import Derived.Test.YtphmcbijpcidaaaRg
namespace Go.Proofs.Ytphmcbijpcidaaa.fnResizeRefusesBeyondMaxAndIsMonotone
open Go.ChangeShapes Go.WideShapes Go.ChangeAt Go.RowKit
set_option linter.unusedVariables false

set_option maxHeartbeats 1000000 in
theorem no_no (n : Nat) (gb mx q1 q2 : Int) (w : World) (hn : n ≤ 65536) (hgb : 0 ≤ gb) (hgb2 : gb ≤ 65536) (hmx0 : 0 ≤ mx) (hmx2 : mx ≤ 65536) (hp0 : 0 ≤ q1) (hp : q1 ≤ q2) (hq : q2 ≤ 65536) (hr : mx < q1) :
    Calls Try.prog 9 #[.int .i64 n, .int .i64 gb, .int .i64 mx, .int .i64 q1, .int .i64 q2] w fun e w' => e = .returned (.bool true) ∧ Below w.heap.size w w' := by
  have hr2 : mx < q2 := by omega
  have hpq : decide (q2 < q1) = false := by simp; omega
  go_enter Try.func9, Try.ntmps9
  go_wp2_with fail
  refine (newReg_any n gb mx _ (by omega)).mono ?_
  rintro e w1 ⟨h, g, r, rfl, a1, a2, a3, a4, R, B⟩
  have s1 := B.size
  have RA := Lib.hid (show Reg w1 h g r n ((0 : Nat) : Int) gb mx [] 0 false from R)
  clear R
  go_wp2_with fail
  refine (newReg_any n gb mx _ (by omega)).mono ?_
  rintro e w2 ⟨h', g', r', rfl, b1, b2, b3, b4, R, B2⟩
  have s2 := B2.size
  replace RA := Lib.hid (RA.out.below (show h < w1.heap.size by omega) (by omega) (by omega) B2)
  replace B := bel_trans B B2 s1
  clear B2
  have RB := Lib.hid (show Reg w2 h' g' r' n ((0 : Nat) : Int) gb mx [] 0 false from R)
  clear R
  go_wp2_with fail
  refine (zzResizeNo2_any q1 _ RA.out (by omega) (by omega) hp0 (by omega) hgb hgb2 hr hmx0).mono ?_
  rintro e w3 ⟨rfl, R, s3, c3, k3⟩
  replace B := B.trans (c3.mono (show w.heap.size ≤ h by omega))
  replace RB := Lib.hid (Reg.mk (RB.out.fl.of_block (k3 _ (by omega))) (RB.out.ar.of_block (k3 _ (by omega))) (RB.out.rg.of_block (k3 _ (by omega))))
  clear RA c3 k3
  have RA := Lib.hid R
  clear R
  go_wp2_with fail
  refine (zzResizeNo2_any q2 _ RB.out (by omega) (by omega) (by omega) hq hgb hgb2 hr2 hmx0).mono ?_
  rintro e w4 ⟨rfl, R, s4, c4, k4⟩
  replace B := B.trans (c4.mono (show w.heap.size ≤ h' by omega))
  replace RA := Lib.hid (Reg.mk (RA.out.fl.of_block (k4 _ (by omega))) (RA.out.ar.of_block (k4 _ (by omega))) (RA.out.rg.of_block (k4 _ (by omega))))
  clear RB c4 k4
  have RB := Lib.hid R
  clear R
  go_wp2_with fail
  refine (over_any _ RA.out).mono ?_
  rintro e w' ⟨rfl, rfl⟩
  go_wp2_with fail
  refine (over_any _ RB.out).mono ?_
  rintro e w' ⟨rfl, rfl⟩
  go_wp2_with fail
  refine (len_any _ RA.out).mono ?_
  rintro e w' ⟨rfl, rfl⟩
  go_wp2_with fail
  refine (len_any _ RB.out).mono ?_
  rintro e w' ⟨rfl, rfl⟩
  go_wp2_with fail
  go_ret
  exact ⟨rfl, B⟩

set_option maxHeartbeats 1000000 in
theorem yes_no (n m : Nat) (gb mx q1 q2 : Int) (w : World) (hn : n ≤ 65536) (hgb : 0 ≤ gb) (hgb2 : gb ≤ 65536) (hmx0 : 0 ≤ mx) (hmx2 : mx ≤ 65536) (hp0 : 0 ≤ q1) (hp : q1 ≤ q2) (hq : q2 ≤ 65536) (hr : q1 ≤ mx) (hr2 : mx < q2) (hm : (m : Int) = min (q1 + gb) mx) :
    Calls Try.prog 9 #[.int .i64 n, .int .i64 gb, .int .i64 mx, .int .i64 q1, .int .i64 q2] w fun e w' => e = .returned (.bool true) ∧ Below w.heap.size w w' := by
  have fa : decide ((m : Int) < q1) = false := by simp; omega
  have fb : decide (mx < (m : Int)) = false := by simp; omega
  have fc : decide (q1 + gb < (m : Int)) = false := by simp; omega
  have hr' : decide (mx < q1) = false := by simp; omega
  have HM := Lib.hid hm
  clear hm
  have hpq : decide (q2 < q1) = false := by simp; omega
  go_enter Try.func9, Try.ntmps9
  go_wp2_with fail
  refine (newReg_any n gb mx _ (by omega)).mono ?_
  rintro e w1 ⟨h, g, r, rfl, a1, a2, a3, a4, R, B⟩
  have s1 := B.size
  have RA := Lib.hid (show Reg w1 h g r n ((0 : Nat) : Int) gb mx [] 0 false from R)
  clear R
  go_wp2_with fail
  refine (newReg_any n gb mx _ (by omega)).mono ?_
  rintro e w2 ⟨h', g', r', rfl, b1, b2, b3, b4, R, B2⟩
  have s2 := B2.size
  replace RA := Lib.hid (RA.out.below (show h < w1.heap.size by omega) (by omega) (by omega) B2)
  replace B := bel_trans B B2 s1
  clear B2
  have RB := Lib.hid (show Reg w2 h' g' r' n ((0 : Nat) : Int) gb mx [] 0 false from R)
  clear R
  go_wp2_with fail
  refine (zzResizeYes2_any q1 m _ RA.out (Nat.zero_le _) (by omega) (by omega) (by omega) hp0 (by omega) hgb hgb2 hr hmx2 HM.out).mono ?_
  rintro e w3 ⟨rfl, ga, p1, p2, R, s3, c3, k3⟩
  replace B := B.trans (c3.mono (show w.heap.size ≤ r by omega))
  replace RB := Lib.hid (Reg.mk (RB.out.fl.of_block (k3 _ (by omega) (by omega))) (RB.out.ar.of_block (k3 _ (by omega) (by omega))) (RB.out.rg.of_block (k3 _ (by omega) (by omega))))
  clear RA c3 k3
  have RA := Lib.hid R
  clear R
  go_wp2_with fail
  refine (zzResizeNo2_any q2 _ RB.out (by omega) (by omega) (by omega) hq hgb hgb2 hr2 hmx0).mono ?_
  rintro e w4 ⟨rfl, R, s4, c4, k4⟩
  replace B := B.trans (c4.mono (show w.heap.size ≤ h' by omega))
  replace RA := Lib.hid (Reg.mk (RA.out.fl.of_block (k4 _ (by omega))) (RA.out.ar.of_block (k4 _ (by omega))) (RA.out.rg.of_block (k4 _ (by omega))))
  clear RB c4 k4
  have RB := Lib.hid R
  clear R
  go_wp2_with fail
  refine (over_any _ RA.out).mono ?_
  rintro e w' ⟨rfl, rfl⟩
  go_wp2_with fail
  refine (over_any _ RB.out).mono ?_
  rintro e w' ⟨rfl, rfl⟩
  go_wp2_with fail
  refine (len_any _ RA.out).mono ?_
  rintro e w' ⟨rfl, rfl⟩
  go_wp2_with fail
  refine (len_any _ RB.out).mono ?_
  rintro e w' ⟨rfl, rfl⟩
  go_wp2_with fail
  go_ret
  exact ⟨rfl, B⟩

set_option maxHeartbeats 1000000 in
theorem yes_yes (n m m2 : Nat) (gb mx q1 q2 : Int) (w : World) (hn : n ≤ 65536) (hgb : 0 ≤ gb) (hgb2 : gb ≤ 65536) (hmx0 : 0 ≤ mx) (hmx2 : mx ≤ 65536) (hp0 : 0 ≤ q1) (hp : q1 ≤ q2) (hq : q2 ≤ 65536) (hr : q2 ≤ mx) (hm : (m : Int) = min (q1 + gb) mx) (hm2 : (m2 : Int) = min (q2 + gb) mx) :
    Calls Try.prog 9 #[.int .i64 n, .int .i64 gb, .int .i64 mx, .int .i64 q1, .int .i64 q2] w fun e w' => e = .returned (.bool true) ∧ Below w.heap.size w w' := by
  have fa : decide ((m : Int) < q1) = false := by simp; omega
  have fb : decide (mx < (m : Int)) = false := by simp; omega
  have fc : decide (q1 + gb < (m : Int)) = false := by simp; omega
  have f2a : decide ((m2 : Int) < q2) = false := by simp; omega
  have f2b : decide (mx < (m2 : Int)) = false := by simp; omega
  have f2c : decide (q2 + gb < (m2 : Int)) = false := by simp; omega
  have fab : decide (m2 < m) = false := by simp; omega
  have hr' : decide (mx < q1) = false := by simp; omega
  have hr2' : decide (mx < q2) = false := by simp; omega
  have hr1 : q1 ≤ mx := by omega
  have HM := Lib.hid hm
  have HM2 := Lib.hid hm2
  clear hm hm2
  have hpq : decide (q2 < q1) = false := by simp; omega
  go_enter Try.func9, Try.ntmps9
  go_wp2_with fail
  refine (newReg_any n gb mx _ (by omega)).mono ?_
  rintro e w1 ⟨h, g, r, rfl, a1, a2, a3, a4, R, B⟩
  have s1 := B.size
  have RA := Lib.hid (show Reg w1 h g r n ((0 : Nat) : Int) gb mx [] 0 false from R)
  clear R
  go_wp2_with fail
  refine (newReg_any n gb mx _ (by omega)).mono ?_
  rintro e w2 ⟨h', g', r', rfl, b1, b2, b3, b4, R, B2⟩
  have s2 := B2.size
  replace RA := Lib.hid (RA.out.below (show h < w1.heap.size by omega) (by omega) (by omega) B2)
  replace B := bel_trans B B2 s1
  clear B2
  have RB := Lib.hid (show Reg w2 h' g' r' n ((0 : Nat) : Int) gb mx [] 0 false from R)
  clear R
  go_wp2_with fail
  refine (zzResizeYes2_any q1 m _ RA.out (Nat.zero_le _) (by omega) (by omega) (by omega) hp0 (by omega) hgb hgb2 hr1 hmx2 HM.out).mono ?_
  rintro e w3 ⟨rfl, ga, p1, p2, R, s3, c3, k3⟩
  replace B := B.trans (c3.mono (show w.heap.size ≤ r by omega))
  replace RB := Lib.hid (Reg.mk (RB.out.fl.of_block (k3 _ (by omega) (by omega))) (RB.out.ar.of_block (k3 _ (by omega) (by omega))) (RB.out.rg.of_block (k3 _ (by omega) (by omega))))
  clear RA c3 k3
  have RA := Lib.hid R
  clear R
  go_wp2_with fail
  refine (zzResizeYes2_any q2 m2 _ RB.out (Nat.zero_le _) (by omega) (by omega) (by omega) (by omega) hq hgb hgb2 hr hmx2 HM2.out).mono ?_
  rintro e w4 ⟨rfl, gx, p3, p4, R, s4, c4, k4⟩
  replace B := B.trans (c4.mono (show w.heap.size ≤ r' by omega))
  replace RA := Lib.hid (Reg.mk (RA.out.fl.of_block (k4 _ (by omega) (by omega))) (RA.out.ar.of_block (k4 _ (by omega) (by omega))) (RA.out.rg.of_block (k4 _ (by omega) (by omega))))
  clear RB c4 k4
  have RB := Lib.hid R
  clear R
  go_wp2_with fail
  refine (over_any _ RA.out).mono ?_
  rintro e w' ⟨rfl, rfl⟩
  go_wp2_with fail
  refine (over_any _ RB.out).mono ?_
  rintro e w' ⟨rfl, rfl⟩
  go_wp2_with fail
  refine (len_any _ RA.out).mono ?_
  rintro e w' ⟨rfl, rfl⟩
  go_wp2_with fail
  refine (len_any _ RB.out).mono ?_
  rintro e w' ⟨rfl, rfl⟩
  go_wp2_with fail
  go_ret
  exact ⟨rfl, B⟩

set_option maxHeartbeats 2000000 in
theorem walk (a0 a1 a2 a3 a4 : Int) (w : World) (w0 : (Lit.int .i64 a0).wf = true) (w1 : (Lit.int .i64 a1).wf = true) (w2 : (Lit.int .i64 a2).wf = true) (w3 : (Lit.int .i64 a3).wf = true) (w4 : (Lit.int .i64 a4).wf = true) :
    Calls Try.prog 9 #[.int .i64 a0, .int .i64 a1, .int .i64 a2, .int .i64 a3, .int .i64 a4] w fun e w' => e = .returned (.bool true) ∧ Below w.heap.size w w' := by
  have hv0 := i64_bd w0
  have hv1 := i64_bd w1
  have hv2 := i64_bd w2
  have hv3 := i64_bd w3
  have hv4 := i64_bd w4
  by_cases e0 : a0 < 0
  · go_enter Try.func9, Try.ntmps9
    go_wp2_with fail
    all_goals (go_ret; exact ⟨rfl, Below.refl _ _⟩)
  by_cases e1 : 65536 < a0
  · go_enter Try.func9, Try.ntmps9
    go_wp2_with fail
    all_goals (go_ret; exact ⟨rfl, Below.refl _ _⟩)
  by_cases e2 : a1 < 0
  · go_enter Try.func9, Try.ntmps9
    go_wp2_with fail
    all_goals (go_ret; exact ⟨rfl, Below.refl _ _⟩)
  by_cases e3 : 65536 < a1
  · go_enter Try.func9, Try.ntmps9
    go_wp2_with fail
    all_goals (go_ret; exact ⟨rfl, Below.refl _ _⟩)
  by_cases e4 : a2 < 0
  · go_enter Try.func9, Try.ntmps9
    go_wp2_with fail
    all_goals (go_ret; exact ⟨rfl, Below.refl _ _⟩)
  by_cases e5 : 65536 < a2
  · go_enter Try.func9, Try.ntmps9
    go_wp2_with fail
    all_goals (go_ret; exact ⟨rfl, Below.refl _ _⟩)
  by_cases e6 : a3 < 0
  · go_enter Try.func9, Try.ntmps9
    go_wp2_with fail
    all_goals (go_ret; exact ⟨rfl, Below.refl _ _⟩)
  by_cases e7 : 65536 < a3
  · go_enter Try.func9, Try.ntmps9
    go_wp2_with fail
    all_goals (go_ret; exact ⟨rfl, Below.refl _ _⟩)
  by_cases e8 : a4 < 0
  · go_enter Try.func9, Try.ntmps9
    go_wp2_with fail
    all_goals (go_ret; exact ⟨rfl, Below.refl _ _⟩)
  by_cases e9 : 65536 < a4
  · go_enter Try.func9, Try.ntmps9
    go_wp2_with fail
    all_goals (go_ret; exact ⟨rfl, Below.refl _ _⟩)
  by_cases e10 : a4 < a3
  · go_enter Try.func9, Try.ntmps9
    go_wp2_with fail
    all_goals (go_ret; exact ⟨rfl, Below.refl _ _⟩)
  obtain ⟨n, rfl⟩ := Int.eq_ofNat_of_zero_le (show 0 ≤ a0 by omega)
  by_cases hr : a2 < a3
  · exact no_no n a1 a2 a3 a4 w (by omega) (by omega) (by omega) (by omega) (by omega) (by omega) (by omega) (by omega) hr
  obtain ⟨m, hm⟩ := Int.eq_ofNat_of_zero_le (show 0 ≤ min (a3 + a1) a2 by omega)
  by_cases hr2 : a2 < a4
  · exact yes_no n m a1 a2 a3 a4 w (by omega) (by omega) (by omega) (by omega) (by omega) (by omega) (by omega) (by omega) (by omega) hr2 hm.symm
  obtain ⟨m2, hm2⟩ := Int.eq_ofNat_of_zero_le (show 0 ≤ min (a4 + a1) a2 by omega)
  exact yes_yes n m m2 a1 a2 a3 a4 w (by omega) (by omega) (by omega) (by omega) (by omega) (by omega) (by omega) (by omega) (by omega) hm.symm hm2.symm
end Go.Proofs.Ytphmcbijpcidaaa.fnResizeRefusesBeyondMaxAndIsMonotone
