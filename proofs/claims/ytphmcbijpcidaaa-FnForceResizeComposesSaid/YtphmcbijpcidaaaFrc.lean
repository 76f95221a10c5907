/- The walk of FnForceResizeComposes: the Go text returns true and writes nothing that was there. -/
import Derived.Test.YtphmcbijpcidaaaRs
namespace Go.Proofs.Ytphmcbijpcidaaa.fnForceResizeComposes
open Go.ChangeShapes Go.WideShapes Go.ChangeAt Go.RowKit
set_option linter.unusedVariables false

theorem sameSlot_any {h g r h' g' r' n k : Nat} {top top' gb mx gb' mx' : Int} {z : List Nat} {hit hit' : Bool} (i : Nat) (w : World) (A : Reg w h g r n top gb mx z k hit) (B : Reg w h' g' r' n top' gb' mx' z k hit') (hi : i < n) :
    Calls Try.prog 24 #[.pointer (some ⟨r, 0, none⟩), .pointer (some ⟨r', 0, none⟩), .int .i64 i] w fun e w' => e = .returned (.bool true) ∧ w = w' := by
  have HA := Lib.hid A
  have HB := Lib.hid B
  clear A B
  by_cases l : i < k
  · have hd : decide (k ≤ i) = false := by simp; omega
    go_enter Try.func24, Try.ntmps24
    go_wp2_with fail
    refine (slotIsNil_any i _ HA.out hi).mono ?_
    rintro e w' ⟨rfl, rfl⟩
    go_wp2_with fail
    refine (slotIsNil_any i _ HB.out hi).mono ?_
    rintro e w' ⟨rfl, rfl⟩
    go_wp2_with fail
    refine (slotNum_lt i _ _ _ HA.out hi l rfl).mono ?_
    rintro e w' ⟨rfl, rfl⟩
    go_wp2_with fail
    refine (slotNum_lt i _ _ _ HB.out hi l rfl).mono ?_
    rintro e w' ⟨rfl, rfl⟩
    go_wp2_with fail
    refine (sameF_any _ _).mono ?_
    rintro e w' ⟨rfl, rfl⟩
    go_wp2_with fail
    go_ret
    exact ⟨rfl, rfl⟩
  · have hd : decide (k ≤ i) = true := by simp; omega
    go_enter Try.func24, Try.ntmps24
    go_wp2_with fail
    refine (slotIsNil_any i _ HA.out hi).mono ?_
    rintro e w' ⟨rfl, rfl⟩
    go_wp2_with fail
    refine (slotIsNil_any i _ HB.out hi).mono ?_
    rintro e w' ⟨rfl, rfl⟩
    go_wp2_with fail
    go_ret
    exact ⟨rfl, rfl⟩

set_option maxHeartbeats 1000000 in
theorem main (n m n1 : Nat) (a : Option Addr) (len cap : Nat) (z : List Nat) (w : World) (r2 : IsRow (.float .f64) 0 w a len cap z) (hn : n ≤ 65536) (hm : m ≤ 65536) (hn1 : n1 ≤ 65536) (hl : len ≤ n) (hml : len ≤ m) :
    Calls Try.prog 5 #[.int .i64 n, .int .i64 m, .int .i64 n1, .slice a len cap] w fun e w' => e = .returned (.bool true) ∧ Below w.heap.size w w' := by
  have l0 := Lib.hid r2.1
  go_enter Try.func5, Try.ntmps5
  go_wp2_with (go_at_call 23; go_in)
  refine (cloneF64_any _ _ _ z _ r2 (by omega)).mono ?_
  rintro e w1 C
  obtain ⟨d, rfl, g1, rg1, B⟩ := C.rng
  clear C
  go_wp2_with fail
  refine (buildReg_any (n := n) (gb := 0) (mx := 0) d len len _ (got_row g1 l0.out (by omega)) (by omega) hl).mono ?_
  rintro e w2 ⟨h, g, r, rfl, q1, q2, q3, q4, R, b2⟩
  have s2 := b2.size
  have s1 := B.size
  replace g1 := got_below g1 b2
  replace B := bel_trans B b2 s1
  clear b2 r2
  have RH := Lib.hid R
  clear R
  go_wp2_with fail
  refine (zzForce_any m _ RH.out hl (by omega) (by omega) (by omega) (by omega)).mono ?_
  rintro e w3 ⟨rfl, g3, p3, u3, R, s3, b3⟩
  replace B := B.trans (b3.mono (show w.heap.size ≤ r by omega))
  replace g1 := got_of g1 (fun x hx hl => b3.block x.block (by have := rg1 x hx; omega))
  rw [Nat.min_eq_left hml] at R
  clear RH b3
  have RH := Lib.hid R
  clear R
  go_wp2_with fail
  refine (zzForce_any n1 _ RH.out hml (by omega) (by omega) (by omega) (by omega)).mono ?_
  rintro e w4 ⟨rfl, g4, p4, u4, R, s4, b4⟩
  replace B := B.trans (b4.mono (show w.heap.size ≤ r by omega))
  replace g1 := got_of g1 (fun x hx hl => b4.block x.block (by have := rg1 x hx; omega))
  clear RH b4
  have RA := Lib.hid R
  clear R
  go_wp2_with fail
  refine (buildReg_any (n := n) (gb := 0) (mx := 0) d len len _ (got_row g1 l0.out (by omega)) (by omega) hl).mono ?_
  rintro e w5 ⟨h5, g5, r5, rfl, q5, q6, q7, q8, R, b5⟩
  have s5 := b5.size
  replace B := bel_trans B b5 B.size
  replace RA := Lib.hid (RA.out.below (show h < w4.heap.size by omega) (by omega) (by omega) b5)
  clear b5 g1
  have RH := Lib.hid R
  clear R
  go_wp2_with fail
  refine (zzForce_any n1 _ RH.out hl (by omega) (by omega) (by omega) (by omega)).mono ?_
  rintro e w6 ⟨rfl, g6, p6, u6, R, s6, b6⟩
  replace B := B.trans (b6.mono (show w.heap.size ≤ r5 by omega))
  replace RA := Lib.hid (RA.out.below (show h < r5 by omega) (by omega) (by omega) b6)
  clear RH b6
  have RB := Lib.hid R
  clear R
  go_wp2_with fail
  refine (len_any _ RA.out).mono ?_
  rintro e w' ⟨rfl, rfl⟩
  go_wp2_with fail
  refine (len_any _ RB.out).mono ?_
  rintro e w' ⟨rfl, rfl⟩
  go_wp2_with fail
  refine (top_any _ RA.out).mono ?_
  rintro e w' ⟨rfl, rfl⟩
  go_wp2_with fail
  refine (top_any _ RB.out).mono ?_
  rintro e w' ⟨rfl, rfl⟩
  go_wp2_with fail
  go_loopw [11] (fun i wr => ∃ j : Nat, j ≤ n1 ∧ i = .int .i64 j ∧ w6 = wr) (fun i _ => n1 - (intOf i).toNat)
  case atStart => exact ⟨0, Nat.zero_le _, rfl, rfl⟩
  case round =>
    obtain ⟨j, hj, rfl, rfl⟩ := hrel
    by_cases hlt : j < n1
    · have hlt' : (j : Int) < (n1 : Int) := by omega
      go_wp2_with fail
      refine (sameSlot_any j _ RA.out RB.out hlt).mono ?_
      rintro e w' ⟨rfl, rfl⟩
      go_wp2_with fail
      go_roundw
      case rel => exact ⟨j + 1, by omega, by go_num, by first | rfl | trivial⟩
      case measure => simp [intOf]; omega
    · obtain rfl : n1 = j := by omega
      go_wp2_with fail
      go_ret
      exact ⟨rfl, B⟩

set_option maxHeartbeats 2000000 in
theorem walk (a0 : Int) (a1 : Int) (a2 : Int) (a3 : Option Addr) (len3 cap3 : Nat) (z3 : List Nat) (w : World) (w0 : (Lit.int .i64 a0).wf = true) (w1 : (Lit.int .i64 a1).wf = true) (w2 : (Lit.int .i64 a2).wf = true) (r3 : IsRow (.float .f64) 0 w a3 len3 cap3 z3) (w3 : ∀ z ∈ z3, (Lit.float .f64 z).wf = true) :
    Calls Try.prog 5 #[.int .i64 a0, .int .i64 a1, .int .i64 a2, .slice a3 len3 cap3] w fun e w' => e = .returned (.bool true) ∧ Below w.heap.size w w' := by
  have hv0 := i64_bd w0
  have hv1 := i64_bd w1
  have hv2 := i64_bd w2
  have m0 := r3.2.1
  have m0' := r3.2.2.1
  unfold maxLen at m0'
  by_cases e0 : (65536 : Int) < (len3 : Int)
  · clear r3
    skip
    go_enter Try.func5, Try.ntmps5
    go_wp2_with (go_at_call 23; go_in)
    all_goals (go_ret; exact ⟨rfl, Below.refl _ _⟩)
  by_cases e1 : a0 < 0
  · clear r3
    skip
    go_enter Try.func5, Try.ntmps5
    go_wp2_with (go_at_call 23; go_in)
    all_goals (go_ret; exact ⟨rfl, Below.refl _ _⟩)
  by_cases e2 : 65536 < a0
  · clear r3
    skip
    go_enter Try.func5, Try.ntmps5
    go_wp2_with (go_at_call 23; go_in)
    all_goals (go_ret; exact ⟨rfl, Below.refl _ _⟩)
  by_cases e3 : a1 < 0
  · clear r3
    skip
    go_enter Try.func5, Try.ntmps5
    go_wp2_with (go_at_call 23; go_in)
    all_goals (go_ret; exact ⟨rfl, Below.refl _ _⟩)
  by_cases e4 : 65536 < a1
  · clear r3
    skip
    go_enter Try.func5, Try.ntmps5
    go_wp2_with (go_at_call 23; go_in)
    all_goals (go_ret; exact ⟨rfl, Below.refl _ _⟩)
  by_cases e5 : a2 < 0
  · clear r3
    skip
    go_enter Try.func5, Try.ntmps5
    go_wp2_with (go_at_call 23; go_in)
    all_goals (go_ret; exact ⟨rfl, Below.refl _ _⟩)
  by_cases e6 : 65536 < a2
  · clear r3
    skip
    go_enter Try.func5, Try.ntmps5
    go_wp2_with (go_at_call 23; go_in)
    all_goals (go_ret; exact ⟨rfl, Below.refl _ _⟩)
  by_cases e7 : a0 < (len3 : Int)
  · clear r3
    skip
    go_enter Try.func5, Try.ntmps5
    go_wp2_with (go_at_call 23; go_in)
    all_goals (go_ret; exact ⟨rfl, Below.refl _ _⟩)
  by_cases e8 : a1 < (len3 : Int)
  · clear r3
    skip
    go_enter Try.func5, Try.ntmps5
    go_wp2_with (go_at_call 23; go_in)
    all_goals (go_ret; exact ⟨rfl, Below.refl _ _⟩)
  obtain ⟨n, rfl⟩ := Int.eq_ofNat_of_zero_le (show 0 ≤ a0 by omega)
  obtain ⟨m, rfl⟩ := Int.eq_ofNat_of_zero_le (show 0 ≤ a1 by omega)
  obtain ⟨n1, rfl⟩ := Int.eq_ofNat_of_zero_le (show 0 ≤ a2 by omega)
  exact main n m n1 a3 len3 cap3 z3 w r3 (by omega) (by omega) (by omega) (by omega) (by omega)
end Go.Proofs.Ytphmcbijpcidaaa.fnForceResizeComposes
