/- The walk of FnNewRegistryCapacityIsExactlyInitialSize: the Go text returns true and writes nothing that was there. -/
import Derived.Test.YtphmcbijpcidaaaRs
namespace Go.Proofs.Ytphmcbijpcidaaa.fnNewRegistryCapacityIsExactlyInitialSize
open Go.ChangeShapes Go.WideShapes Go.ChangeAt Go.RowKit
set_option linter.unusedVariables false

set_option maxHeartbeats 1000000 in
theorem main_no (n : Nat) (gb mx : Int) (w : World) (hn : n ≤ 65536) (hgb : 0 ≤ gb) (hgb2 : gb ≤ 65536) (hmx0 : 0 ≤ mx) (hmx2 : mx ≤ 65536) (hr : mx < (n : Int) + 1) :
    Calls Try.prog 4 #[.int .i64 n, .int .i64 gb, .int .i64 mx] w fun e w' => e = .returned (.bool true) ∧ Below w.heap.size w w' := by
  have hr' : decide ((n : Int) + 1 ≤ mx) = false := by simp; omega
  have hb0 : decide ((n : Int) ≤ 0) = ((n : Int) == 0) := by
    by_cases h : n = 0
    · subst h
      rfl
    · have a1 : decide ((n : Int) ≤ 0) = false := by simp; omega
      have a2 : ((n : Int) == 0) = false := by simp; omega
      rw [a1, a2]
  go_enter Try.func4, Try.ntmps4
  go_wp2_with fail
  refine (newReg_any n gb mx w (by omega)).mono ?_
  rintro e w1 ⟨h, g, r, rfl, q1, q2, q3, q4, R, B⟩
  have RH := Lib.hid R
  clear R
  go_wp2_with fail
  refine (full_any _ RH.out).mono ?_
  rintro e w2 ⟨rfl, k, rfl⟩
  replace RH := Lib.hid (RH.out.drew k)
  replace B := below_drewN B k
  rw [hb0]
  go_wp2_with fail
  refine (checkFit_any n _ RH.out (Int.le_refl _)).mono ?_
  rintro e w' ⟨rfl, rfl⟩
  go_wp2_with fail
  refine (len_any _ RH.out).mono ?_
  rintro e w' ⟨rfl, rfl⟩
  go_wp2_with fail
  refine (over_any _ RH.out).mono ?_
  rintro e w' ⟨rfl, rfl⟩
  go_wp2_with fail
  go_ret
  exact ⟨rfl, B⟩

set_option maxHeartbeats 1000000 in
theorem main_yes (n m : Nat) (gb mx : Int) (w : World) (hn : n ≤ 65536) (hgb : 0 ≤ gb) (hgb2 : gb ≤ 65536) (hmx0 : 0 ≤ mx) (hmx2 : mx ≤ 65536) (hr : (n : Int) + 1 ≤ mx) (hm : (m : Int) = min ((n : Int) + 1 + gb) mx) :
    Calls Try.prog 4 #[.int .i64 n, .int .i64 gb, .int .i64 mx] w fun e w' => e = .returned (.bool true) ∧ Below w.heap.size w w' := by
  have HM := Lib.hid hm
  have hm2 : (n : Int) < (m : Int) := by omega
  clear hm
  have hb0 : decide ((n : Int) ≤ 0) = ((n : Int) == 0) := by
    by_cases h : n = 0
    · subst h
      rfl
    · have a1 : decide ((n : Int) ≤ 0) = false := by simp; omega
      have a2 : ((n : Int) == 0) = false := by simp; omega
      rw [a1, a2]
  go_enter Try.func4, Try.ntmps4
  go_wp2_with fail
  refine (newReg_any n gb mx w (by omega)).mono ?_
  rintro e w1 ⟨h, g, r, rfl, q1, q2, q3, q4, R, B⟩
  have RH := Lib.hid R
  clear R
  go_wp2_with fail
  refine (full_any _ RH.out).mono ?_
  rintro e w2 ⟨rfl, k, rfl⟩
  replace RH := Lib.hid (RH.out.drew k)
  replace B := below_drewN B k
  rw [hb0]
  go_wp2_with fail
  refine (checkFit_any n _ RH.out (Int.le_refl _)).mono ?_
  rintro e w' ⟨rfl, rfl⟩
  go_wp2_with fail
  refine (len_any _ RH.out).mono ?_
  rintro e w' ⟨rfl, rfl⟩
  go_wp2_with fail
  refine (over_any _ RH.out).mono ?_
  rintro e w' ⟨rfl, rfl⟩
  go_wp2_with fail
  refine (newReg_any n gb mx _ (by omega)).mono ?_
  rintro e w3 ⟨h3, g3, r3, rfl, p1, p2, p3, p4, R, b3⟩
  replace B := bel_trans B b3 B.size
  have sw : w.heap.size ≤ w1.heap.size := by omega
  have sz : (w1.drewN k).heap.size = w1.heap.size := rfl
  rw [sz] at p1
  have RB := Lib.hid (show Reg w3 h3 g3 r3 n (0 : Nat) gb mx [] 0 false from R)
  clear R b3 RH
  go_wp2_with fail
  refine (checkYes_any ((n : Int) + 1) m _ RB.out (Nat.zero_le _) (by omega) (by omega) (by omega) (by omega) (by omega) hgb hgb2 hr hmx2 HM.out).mono ?_
  rintro e w4 ⟨rfl, g4, u1, u2, R, s4, b4⟩
  replace B := B.trans (b4.mono (show w.heap.size ≤ r3 by omega))
  have R4 := Lib.hid R
  clear R b4 RB
  go_wp2_with fail
  refine (len_any _ R4.out).mono ?_
  rintro e w' ⟨rfl, rfl⟩
  go_wp2_with fail
  refine (over_any _ R4.out).mono ?_
  rintro e w' ⟨rfl, rfl⟩
  go_wp2_with fail
  go_ret
  exact ⟨rfl, B⟩

set_option maxHeartbeats 2000000 in
theorem walk (a0 : Int) (a1 : Int) (a2 : Int) (w : World) (w0 : (Lit.int .i64 a0).wf = true) (w1 : (Lit.int .i64 a1).wf = true) (w2 : (Lit.int .i64 a2).wf = true) :
    Calls Try.prog 4 #[.int .i64 a0, .int .i64 a1, .int .i64 a2] w fun e w' => e = .returned (.bool true) ∧ Below w.heap.size w w' := by
  have hv0 := i64_bd w0
  have hv1 := i64_bd w1
  have hv2 := i64_bd w2
  by_cases e0 : a0 < 0
  · skip
    skip
    go_enter Try.func4, Try.ntmps4
    go_wp2_with fail
    all_goals (go_ret; exact ⟨rfl, Below.refl _ _⟩)
  by_cases e1 : 65536 < a0
  · skip
    skip
    go_enter Try.func4, Try.ntmps4
    go_wp2_with fail
    all_goals (go_ret; exact ⟨rfl, Below.refl _ _⟩)
  by_cases e2 : a1 < 0
  · skip
    skip
    go_enter Try.func4, Try.ntmps4
    go_wp2_with fail
    all_goals (go_ret; exact ⟨rfl, Below.refl _ _⟩)
  by_cases e3 : 65536 < a1
  · skip
    skip
    go_enter Try.func4, Try.ntmps4
    go_wp2_with fail
    all_goals (go_ret; exact ⟨rfl, Below.refl _ _⟩)
  by_cases e4 : a2 < 0
  · skip
    skip
    go_enter Try.func4, Try.ntmps4
    go_wp2_with fail
    all_goals (go_ret; exact ⟨rfl, Below.refl _ _⟩)
  by_cases e5 : 65536 < a2
  · skip
    skip
    go_enter Try.func4, Try.ntmps4
    go_wp2_with fail
    all_goals (go_ret; exact ⟨rfl, Below.refl _ _⟩)
  obtain ⟨n, rfl⟩ := Int.eq_ofNat_of_zero_le (show 0 ≤ a0 by omega)
  by_cases hr : a2 < (n : Int) + 1
  · exact main_no n a1 a2 w (by omega) (by omega) (by omega) (by omega) (by omega) hr
  · obtain ⟨m, hm⟩ := Int.eq_ofNat_of_zero_le (show 0 ≤ min ((n : Int) + 1 + a1) a2 by omega)
    exact main_yes n m a1 a2 w (by omega) (by omega) (by omega) (by omega) (by omega) (by omega) hm.symm
end Go.Proofs.Ytphmcbijpcidaaa.fnNewRegistryCapacityIsExactlyInitialSize
