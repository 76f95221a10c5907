/- The walk of FnForceResizeExact: the Go text returns true and writes nothing that was there. -/
import Derived.Test.YtphmcbijpcidaaaRs
namespace Go.Proofs.Ytphmcbijpcidaaa.fnForceResizeExact
open Go.ChangeShapes Go.WideShapes Go.ChangeAt Go.RowKit
set_option linter.unusedVariables false

theorem main (n m : Nat) (a : Option Addr) (len cap : Nat) (z : List Nat) (w : World) (r2 : IsRow (.float .f64) 0 w a len cap z) (hn : n ≤ 65536) (hm : m ≤ 65536) (hl : len ≤ n) :
    Calls Try.prog 3 #[.int .i64 n, .int .i64 m, .slice a len cap] w fun e w' => e = .returned (.bool true) ∧ Below w.heap.size w w' := by
  have l0 := Lib.hid r2.1
  go_enter Try.func3, Try.ntmps3
  go_wp2_with (go_at_call 10; go_in)
  refine (cloneF64_any _ _ _ z _ r2 (by omega)).mono ?_
  rintro e w1 C
  obtain ⟨d, rfl, g1, rg1, B⟩ := C.rng
  clear C
  go_wp2_with fail
  refine (buildReg_any (n := n) (gb := 0) (mx := 0) d len len _ (got_row g1 l0.out (by omega)) (by omega) hl).mono ?_
  rintro e w2 ⟨h, g, r, rfl, q1, q2, q3, q4, R, b2⟩
  have s2 := b2.size
  have s1 := B.size
  replace g1 := got_below g1 b2
  replace B := bel_trans B b2 s1
  clear b2 r2
  have RH := Lib.hid R
  clear R
  go_wp2_with fail
  refine (zzForce_any m _ RH.out hl (by omega) (by omega) (by omega) (by omega)).mono ?_
  rintro e w3 ⟨rfl, g', q5, q6, R, s3, b3⟩
  replace B := B.trans (b3.mono (show w.heap.size ≤ r by omega))
  replace g1 := got_of g1 (fun x hx hl => b3.block x.block (by have := rg1 x hx; omega))
  have R3 := Lib.hid R
  clear R RH b3
  have VR := Lib.hid (got_row g1 l0.out (by omega))
  clear g1
  go_wp2_with fail
  refine (len_any _ R3.out).mono ?_
  rintro e w' ⟨rfl, rfl⟩
  go_wp2_with fail
  refine (cap_any _ R3.out).mono ?_
  rintro e w' ⟨rfl, rfl⟩
  go_wp2_with fail
  refine (top_any _ R3.out).mono ?_
  rintro e w' ⟨rfl, rfl⟩
  go_wp2_with fail
  refine (over_any _ R3.out).mono ?_
  rintro e w' ⟨rfl, rfl⟩
  go_wp2_with fail
  refine (zzMin_any len m ((min len m : Nat) : Int) _ (by omega)).mono ?_
  rintro e w' ⟨rfl, rfl⟩
  go_wp2_with fail
  refine (slotsMatch_any d len len len _ VR.out R3.out (Nat.min_le_left _ _) (Nat.min_le_right _ _) (by omega)).mono ?_
  rintro e w' ⟨rfl, rfl⟩
  go_wp2_with fail
  go_ret
  exact ⟨rfl, B⟩

theorem walk (a0 : Int) (a1 : Int) (a2 : Option Addr) (len2 cap2 : Nat) (z2 : List Nat) (w : World) (w0 : (Lit.int .i64 a0).wf = true) (w1 : (Lit.int .i64 a1).wf = true) (r2 : IsRow (.float .f64) 0 w a2 len2 cap2 z2) (w2 : ∀ z ∈ z2, (Lit.float .f64 z).wf = true) :
    Calls Try.prog 3 #[.int .i64 a0, .int .i64 a1, .slice a2 len2 cap2] w fun e w' => e = .returned (.bool true) ∧ Below w.heap.size w w' := by
  have hv0 := i64_bd w0
  have hv1 := i64_bd w1
  have m0 := r2.2.1
  have m0' := r2.2.2.1
  unfold maxLen at m0'
  by_cases g1 : (65536 : Int) < (len2 : Int)
  · clear r2
    go_enter Try.func3, Try.ntmps3
    go_wp2_with (go_at_call 10; go_in)
    all_goals (go_ret; exact ⟨rfl, Below.refl _ _⟩)
  by_cases g2 : a0 < 0
  · clear r2
    go_enter Try.func3, Try.ntmps3
    go_wp2_with (go_at_call 10; go_in)
    all_goals (go_ret; exact ⟨rfl, Below.refl _ _⟩)
  by_cases g3 : 65536 < a0
  · clear r2
    go_enter Try.func3, Try.ntmps3
    go_wp2_with (go_at_call 10; go_in)
    all_goals (go_ret; exact ⟨rfl, Below.refl _ _⟩)
  by_cases g4 : a1 < 0
  · clear r2
    go_enter Try.func3, Try.ntmps3
    go_wp2_with (go_at_call 10; go_in)
    all_goals (go_ret; exact ⟨rfl, Below.refl _ _⟩)
  by_cases g5 : 65536 < a1
  · clear r2
    go_enter Try.func3, Try.ntmps3
    go_wp2_with (go_at_call 10; go_in)
    all_goals (go_ret; exact ⟨rfl, Below.refl _ _⟩)
  by_cases g6 : a0 < (len2 : Int)
  · clear r2
    go_enter Try.func3, Try.ntmps3
    go_wp2_with (go_at_call 10; go_in)
    all_goals (go_ret; exact ⟨rfl, Below.refl _ _⟩)
  obtain ⟨n, rfl⟩ := Int.eq_ofNat_of_zero_le (show 0 ≤ a0 by omega)
  obtain ⟨m, rfl⟩ := Int.eq_ofNat_of_zero_le (show 0 ≤ a1 by omega)
  exact main n m a2 len2 cap2 z2 w r2 (by omega) (by omega) (by omega)
end Go.Proofs.Ytphmcbijpcidaaa.fnForceResizeExact
