/- The walk of FnCheckSizeMakesRoomAndSettles: the Go text returns true and writes nothing that was there. -/
import Derived.Test.YtphmcbijpcidaaaRs
namespace Go.Proofs.Ytphmcbijpcidaaa.fnCheckSizeMakesRoomAndSettles
open Go.ChangeShapes Go.WideShapes Go.ChangeAt Go.RowKit
set_option linter.unusedVariables false

set_option maxHeartbeats 1000000 in
theorem main_fit (n : Nat) (gb mx q : Int) (a : Option Addr) (len cap : Nat) (z : List Nat) (w : World) (r2 : IsRow (.float .f64) 0 w a len cap z) (hn : n ≤ 65536) (hgb : 0 ≤ gb) (hgb2 : gb ≤ 65536) (hmx0 : 0 ≤ mx) (hmx2 : mx ≤ 65536) (hq0 : -65536 ≤ q) (hq : q ≤ 65536) (hl : len ≤ n) (hf : q ≤ n) :
    Calls Try.prog 8 #[.int .i64 n, .int .i64 gb, .int .i64 mx, .int .i64 q, .slice a len cap] w fun e w' => e = .returned (.bool true) ∧ Below w.heap.size w w' := by
  have l0 := Lib.hid r2.1
  have hf' : decide ((n : Int) < q) = false := by simp; omega
  have hlt : decide ((n : Int) < (n : Int)) = false := by simp
  go_enter Try.func8, Try.ntmps8
  go_wp2_with (go_at_call 28; go_in)
  refine (cloneF64_any _ _ _ z _ r2 (by omega)).mono ?_
  rintro e w1 C
  obtain ⟨d, rfl, g1, rg1, B⟩ := C.rng
  clear C
  go_wp2_with fail
  refine (buildReg_any (n := n) (gb := gb) (mx := mx) d len len _ (got_row g1 l0.out (by omega)) (by omega) hl).mono ?_
  rintro e w2 ⟨h, g, r, rfl, q1, q2, q3, q4, R, b2⟩
  have s2 := b2.size
  have s1 := B.size
  replace g1 := got_below g1 b2
  replace B := bel_trans B b2 s1
  clear b2 r2
  have RH := Lib.hid R
  clear R
  go_wp2_with fail
  refine (checkFit_any q _ RH.out hf).mono ?_
  rintro e w' ⟨rfl, rfl⟩
  have R3 := RH
  have VR := Lib.hid (got_row g1 l0.out (by omega))
  clear g1
  go_wp2_with fail
  refine (len_any _ R3.out).mono ?_
  rintro e w' ⟨rfl, rfl⟩
  go_wp2_with fail
  refine (over_any _ R3.out).mono ?_
  rintro e w' ⟨rfl, rfl⟩
  go_wp2_with fail
  refine (cap_any _ R3.out).mono ?_
  rintro e w' ⟨rfl, rfl⟩
  go_wp2_with fail
  refine (top_any _ R3.out).mono ?_
  rintro e w' ⟨rfl, rfl⟩
  go_wp2_with fail
  refine (slotsMatch_any d len len len _ VR.out R3.out (Nat.le_refl _) hl (by omega)).mono ?_
  rintro e w' ⟨rfl, rfl⟩
  go_wp2_with fail
  refine (checkFit_any q _ R3.out hf).mono ?_
  rintro e w' ⟨rfl, rfl⟩
  go_wp2_with fail
  refine (len_any _ R3.out).mono ?_
  rintro e w' ⟨rfl, rfl⟩
  go_wp2_with fail
  refine (over_any _ R3.out).mono ?_
  rintro e w' ⟨rfl, rfl⟩
  go_wp2_with fail
  refine (top_any _ R3.out).mono ?_
  rintro e w' ⟨rfl, rfl⟩
  go_wp2_with fail
  refine (slotsMatch_any d len len len _ VR.out R3.out (Nat.le_refl _) hl (by omega)).mono ?_
  rintro e w' ⟨rfl, rfl⟩
  go_wp2_with fail
  go_ret
  exact ⟨rfl, B⟩

set_option maxHeartbeats 1000000 in
theorem main_yes (n m : Nat) (gb mx q : Int) (a : Option Addr) (len cap : Nat) (z : List Nat) (w : World) (r2 : IsRow (.float .f64) 0 w a len cap z) (hn : n ≤ 65536) (hgb : 0 ≤ gb) (hgb2 : gb ≤ 65536) (hmx0 : 0 ≤ mx) (hmx2 : mx ≤ 65536) (hq0 : -65536 ≤ q) (hq : q ≤ 65536) (hl : len ≤ n) (hf : (n : Int) < q) (hr : q ≤ mx) (hm : (m : Int) = min (q + gb) mx) :
    Calls Try.prog 8 #[.int .i64 n, .int .i64 gb, .int .i64 mx, .int .i64 q, .slice a len cap] w fun e w' => e = .returned (.bool true) ∧ Below w.heap.size w w' := by
  have l0 := Lib.hid r2.1
  have HM := Lib.hid hm
  have hm2 : m ≤ 65536 := by omega
  have hm3 : len ≤ m := by omega
  have hm4 : q ≤ m := by omega
  have hm5 : decide ((m : Int) < q) = false := by simp; omega
  have hm6 : decide ((m : Int) < (n : Int)) = false := by simp; omega
  clear hm
  have hr' : decide (mx < q) = false := by simp; omega
  go_enter Try.func8, Try.ntmps8
  go_wp2_with (go_at_call 28; go_in)
  refine (cloneF64_any _ _ _ z _ r2 (by omega)).mono ?_
  rintro e w1 C
  obtain ⟨d, rfl, g1, rg1, B⟩ := C.rng
  clear C
  go_wp2_with fail
  refine (buildReg_any (n := n) (gb := gb) (mx := mx) d len len _ (got_row g1 l0.out (by omega)) (by omega) hl).mono ?_
  rintro e w2 ⟨h, g, r, rfl, q1, q2, q3, q4, R, b2⟩
  have s2 := b2.size
  have s1 := B.size
  replace g1 := got_below g1 b2
  replace B := bel_trans B b2 s1
  clear b2 r2
  have RH := Lib.hid R
  clear R
  go_wp2_with fail
  refine (checkYes_any q m _ RH.out hl (by omega) (by omega) (by omega) hf hq hgb hgb2 hr hmx2 HM.out).mono ?_
  rintro e w3 ⟨rfl, g', q5, q6, R, s3, b3⟩
  replace B := B.trans (b3.mono (show w.heap.size ≤ r by omega))
  replace g1 := got_of g1 (fun x hx hl => b3.block x.block (by have := rg1 x hx; omega))
  rw [Nat.min_eq_left hm3] at R
  have R3 := Lib.hid R
  clear R b3
  have VR := Lib.hid (got_row g1 l0.out (by omega))
  clear g1
  go_wp2_with fail
  refine (len_any _ R3.out).mono ?_
  rintro e w' ⟨rfl, rfl⟩
  go_wp2_with fail
  refine (over_any _ R3.out).mono ?_
  rintro e w' ⟨rfl, rfl⟩
  go_wp2_with fail
  refine (cap_any _ R3.out).mono ?_
  rintro e w' ⟨rfl, rfl⟩
  go_wp2_with fail
  refine (top_any _ R3.out).mono ?_
  rintro e w' ⟨rfl, rfl⟩
  go_wp2_with fail
  refine (slotsMatch_any d len len len _ VR.out R3.out (Nat.le_refl _) hm3 (by omega)).mono ?_
  rintro e w' ⟨rfl, rfl⟩
  go_wp2_with fail
  refine (checkFit_any q _ R3.out hm4).mono ?_
  rintro e w' ⟨rfl, rfl⟩
  go_wp2_with fail
  refine (len_any _ R3.out).mono ?_
  rintro e w' ⟨rfl, rfl⟩
  go_wp2_with fail
  refine (over_any _ R3.out).mono ?_
  rintro e w' ⟨rfl, rfl⟩
  go_wp2_with fail
  refine (top_any _ R3.out).mono ?_
  rintro e w' ⟨rfl, rfl⟩
  go_wp2_with fail
  refine (slotsMatch_any d len len len _ VR.out R3.out (Nat.le_refl _) hm3 (by omega)).mono ?_
  rintro e w' ⟨rfl, rfl⟩
  go_wp2_with fail
  go_ret
  exact ⟨rfl, B⟩

set_option maxHeartbeats 2000000 in
theorem walk (a0 : Int) (a1 : Int) (a2 : Int) (a3 : Int) (a4 : Option Addr) (len4 cap4 : Nat) (z4 : List Nat) (w : World) (w0 : (Lit.int .i64 a0).wf = true) (w1 : (Lit.int .i64 a1).wf = true) (w2 : (Lit.int .i64 a2).wf = true) (w3 : (Lit.int .i64 a3).wf = true) (r4 : IsRow (.float .f64) 0 w a4 len4 cap4 z4) (w4 : ∀ z ∈ z4, (Lit.float .f64 z).wf = true) :
    Calls Try.prog 8 #[.int .i64 a0, .int .i64 a1, .int .i64 a2, .int .i64 a3, .slice a4 len4 cap4] w fun e w' => e = .returned (.bool true) ∧ Below w.heap.size w w' := by
  have hv0 := i64_bd w0
  have hv1 := i64_bd w1
  have hv2 := i64_bd w2
  have hv3 := i64_bd w3
  have m0 := r4.2.1
  have m0' := r4.2.2.1
  unfold maxLen at m0'
  by_cases e0 : (65536 : Int) < (len4 : Int)
  · clear r4
    skip
    go_enter Try.func8, Try.ntmps8
    go_wp2_with (go_at_call 28; go_in)
    all_goals (go_ret; exact ⟨rfl, Below.refl _ _⟩)
  by_cases e1 : a0 < 0
  · clear r4
    skip
    go_enter Try.func8, Try.ntmps8
    go_wp2_with (go_at_call 28; go_in)
    all_goals (go_ret; exact ⟨rfl, Below.refl _ _⟩)
  by_cases e2 : 65536 < a0
  · clear r4
    skip
    go_enter Try.func8, Try.ntmps8
    go_wp2_with (go_at_call 28; go_in)
    all_goals (go_ret; exact ⟨rfl, Below.refl _ _⟩)
  by_cases e3 : a1 < 0
  · clear r4
    skip
    go_enter Try.func8, Try.ntmps8
    go_wp2_with (go_at_call 28; go_in)
    all_goals (go_ret; exact ⟨rfl, Below.refl _ _⟩)
  by_cases e4 : 65536 < a1
  · clear r4
    skip
    go_enter Try.func8, Try.ntmps8
    go_wp2_with (go_at_call 28; go_in)
    all_goals (go_ret; exact ⟨rfl, Below.refl _ _⟩)
  by_cases e5 : a2 < 0
  · clear r4
    skip
    go_enter Try.func8, Try.ntmps8
    go_wp2_with (go_at_call 28; go_in)
    all_goals (go_ret; exact ⟨rfl, Below.refl _ _⟩)
  by_cases e6 : 65536 < a2
  · clear r4
    skip
    go_enter Try.func8, Try.ntmps8
    go_wp2_with (go_at_call 28; go_in)
    all_goals (go_ret; exact ⟨rfl, Below.refl _ _⟩)
  by_cases e7 : a3 < -65536
  · clear r4
    skip
    go_enter Try.func8, Try.ntmps8
    go_wp2_with (go_at_call 28; go_in)
    all_goals (go_ret; exact ⟨rfl, Below.refl _ _⟩)
  by_cases e8 : 65536 < a3
  · clear r4
    skip
    go_enter Try.func8, Try.ntmps8
    go_wp2_with (go_at_call 28; go_in)
    all_goals (go_ret; exact ⟨rfl, Below.refl _ _⟩)
  by_cases e9 : a0 < (len4 : Int)
  · clear r4
    skip
    go_enter Try.func8, Try.ntmps8
    go_wp2_with (go_at_call 28; go_in)
    all_goals (go_ret; exact ⟨rfl, Below.refl _ _⟩)
  obtain ⟨n, rfl⟩ := Int.eq_ofNat_of_zero_le (show 0 ≤ a0 by omega)
  by_cases hf : a3 ≤ n
  · exact main_fit n a1 a2 a3 a4 len4 cap4 z4 w r4 (by omega) (by omega) (by omega) (by omega) (by omega) (by omega) (by omega) (by omega) hf
  by_cases hr : a2 < a3
  · clear r4
    skip
    go_enter Try.func8, Try.ntmps8
    go_wp2_with (go_at_call 28; go_in)
    all_goals (go_ret; exact ⟨rfl, Below.refl _ _⟩)
  · obtain ⟨m, hm⟩ := Int.eq_ofNat_of_zero_le (show 0 ≤ min (a3 + a1) a2 by omega)
    exact main_yes n m a1 a2 a3 a4 len4 cap4 z4 w r4 (by omega) (by omega) (by omega) (by omega) (by omega) (by omega) (by omega) (by omega) (by omega) (by omega) hm.symm
end Go.Proofs.Ytphmcbijpcidaaa.fnCheckSizeMakesRoomAndSettles
