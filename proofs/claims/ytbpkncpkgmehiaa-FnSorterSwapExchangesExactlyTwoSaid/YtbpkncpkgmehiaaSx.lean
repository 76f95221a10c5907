/- The walk of FnSorterSwapExchangesExactlyTwo: the Go text returns true and writes nothing that was there. -/
import Derived.Test.YtbpkncpkgmehiaaSw
import Derived.Test.YtbpkncpkgmehiaaCloneF64
namespace Go.Proofs.Ytbpkncpkgmehiaa.fnSorterSwapExchangesExactlyTwo
open Go.ChangeShapes Go.WideShapes Go.ChangeAt Go.RowKit
set_option linter.unusedVariables false

set_option maxHeartbeats 1000000 in
theorem main (a : Option Addr) (n cap : Nat) (z : List Nat) (i j : Nat) (w : World) (r0 : IsRow (.float .f64) 0 w a n cap z) (hn : n ≤ 131072) (hi : i < n) (hj : j < n) :
    Calls Try.prog 4 #[.slice a n cap, .int .i64 i, .int .i64 j] w fun e w' => e = .returned (.bool true) ∧ Below w.heap.size w w' := by
  have l0 := Lib.hid r0.1
  have hi' : (i : Int) < (n : Int) := by omega
  have hj' : (j : Int) < (n : Int) := by omega
  have hi2 : decide ((n : Int) ≤ (i : Int)) = false := by simp; omega
  have hj2 : decide ((n : Int) ≤ (j : Int)) = false := by simp; omega
  go_enter Try.func4, Try.ntmps4
  go_wp2_with (go_at_call 13; go_in)
  refine (cloneF64_any _ _ _ z _ r0 (by omega)).mono ?_
  rintro e w1 C
  obtain ⟨d, rfl, g1, rg1, B⟩ := C.rng
  clear C r0
  go_wp2_with fail
  refine (newSorter_any d n n z _ (got_row g1 l0.out (by omega)) (by omega)).mono ?_
  rintro e w2 ⟨g, rfl, q1, R, b2⟩
  have s1 := B.size
  have s2 := b2.size
  replace g1 := got_below g1 b2
  replace B := bel_trans B b2 s1
  clear b2
  go_wp2_with fail
  have S := lf_at w2 [.pointer none, .pointer none, .slice (some ⟨g, 0, none⟩) n n] 38 _ rfl
  replace S : World.rowIs (w2.alloc (.cells #[.pointer none, .pointer none, .slice (some ⟨g, 0, none⟩) n n] 38)) w2.heap.size 38 3 _ := S
  have hgw := R.lt
  replace R := R.alloc (.cells #[.pointer none, .pointer none, .slice (some ⟨g, 0, none⟩) n n] 38)
  replace g1 := got_alloc g1 (.cells #[.pointer none, .pointer none, .slice (some ⟨g, 0, none⟩) n n] 38)
  replace B := B.alloc B.size (.cells #[.pointer none, .pointer none, .slice (some ⟨g, 0, none⟩) n n] 38)
  obtain ⟨w2', h2⟩ : ∃ v, w2.alloc (.cells #[.pointer none, .pointer none, .slice (some ⟨g, 0, none⟩) n n] 38) = v := ⟨_, rfl⟩
  obtain ⟨H, hH⟩ : ∃ H, w2.heap.size = H := ⟨_, rfl⟩
  have wH : w1.heap.size ≤ H := by omega
  rw [hH] at S hgw ⊢
  rw [h2] at S R g1 B ⊢
  clear h2 hH
  have RH := Lib.hid R
  clear R
  refine (swap_any g n i j z _ RH.out l0.out hi hj).mono ?_
  rintro e w3 ⟨rfl, R, s3, b3, k3⟩
  replace B := B.trans (b3.mono (show w.heap.size ≤ g by omega))
  replace g1 := got_of g1 (fun x hx hl => b3.block x.block (by have := rg1 x hx; omega))
  clear RH
  have RH := Lib.hid R
  clear R
  replace S := S.of_block (k3 H S.lt (by omega))
  have t0 : w3.cell? ⟨H, 0, none⟩ = some (.pointer none) := S.cell (i := 0) (by omega)
  have t1 : w3.cell? ⟨H, 1, none⟩ = some (.pointer none) := S.cell (i := 1) (by omega)
  have t2 : w3.cell? ⟨H, 2, none⟩ = some (.slice (some ⟨g, 0, none⟩) n n) := S.cell (i := 2) (by omega)
  clear b3 k3
  go_wp2_with fail
  refine (nums_any g n (swp z i j) _ RH.out (by omega)).mono ?_
  rintro e w4 ⟨o, rfl, q4, R, b4⟩
  have s4 := b4.size
  replace g1 := got_below g1 b4
  replace B := bel_trans B b4 B.size
  clear b4 RH
  have RH := Lib.hid R
  clear R
  go_wp2_with fail
  obtain ⟨x1, hx1, hB1, hr1⟩ := got_pos g1 (by omega)
  have HX1 := Lib.hid hx1
  rw [hx1]
  have HR1 := Lib.hid hr1
  clear hx1 g1 hr1 S t0 t1 t2
  obtain ⟨zi, hzi⟩ : ∃ q, z.getD i 0 = q := ⟨_, rfl⟩
  obtain ⟨zj, hzj⟩ : ∃ q, z.getD j 0 = q := ⟨_, rfl⟩
  have ci : w4.cell? ⟨x1, i, none⟩ = some (.float .f64 zi) := by rw [← hzi]; exact HR1.out.cell (i := i) hi
  have cj : w4.cell? ⟨x1, j, none⟩ = some (.float .f64 zj) := by rw [← hzj]; exact HR1.out.cell (i := j) hj
  have HZI := Lib.hid hzi
  have HZJ := Lib.hid hzj
  clear hzi hzj
  go_loopw [10] (fun i wr => ∃ k : Nat, k ≤ n ∧ i = .int .i64 k ∧ w4 = wr) (fun i _ => n - (intOf i).toNat)
  case atStart => exact ⟨0, Nat.zero_le _, rfl, rfl⟩
  case round =>
    obtain ⟨k, hk, rfl, rfl⟩ := hrel
    by_cases hlt : k < n
    · have hlt' : (k : Int) < (n : Int) := by omega
      obtain ⟨zk, hzk⟩ : ∃ q, z.getD k 0 = q := ⟨_, rfl⟩
      have ck : w4.cell? ⟨x1, k, none⟩ = some (.float .f64 zk) := by rw [← hzk]; exact HR1.out.cell (i := k) hlt
      have HZK := Lib.hid hzk
      clear hzk
      have ok := RH.out.cell (i := k) hlt
      have sw := swp_at z i j k (by have := l0.out; omega) (by have := l0.out; omega)
      simp only [sw, HZI.out, HZJ.out, HZK.out] at ok
      clear sw
      by_cases e1 : k = i
      · subst e1
        have hz : zi = zk := by rw [← HZI.out, ← HZK.out]
        have ok' : w4.cell? ⟨o, k, none⟩ = some (.float .f64 zj) := by
          rw [ok]
          by_cases e2 : k = j
          · subst e2
            rw [if_pos rfl, ← HZI.out, ← HZJ.out]
          · rw [if_neg e2, if_pos rfl]
        clear ok hz
        have be : ((k : Int) == (k : Int)) = true := by simp
        go_wp2_with fail
        refine (sameF_any zj _).mono ?_
        rintro e w' ⟨rfl, rfl⟩
        go_wp2_with fail
        go_roundw
        case rel => exact ⟨k + 1, by omega, by go_num, by first | rfl | trivial⟩
        case measure => simp [intOf]; omega
      · have be : ((k : Int) == (i : Int)) = false := by simp; omega
        by_cases e2 : k = j
        · subst e2
          rw [if_pos rfl] at ok
          go_wp2_with fail
          refine (sameF_any zi _).mono ?_
          rintro e w' ⟨rfl, rfl⟩
          go_wp2_with fail
          go_roundw
          case rel => exact ⟨k + 1, by omega, by go_num, by first | rfl | trivial⟩
          case measure => simp [intOf]; omega
        · have be2 : ((k : Int) == (j : Int)) = false := by simp; omega
          rw [if_neg e2, if_neg e1] at ok
          go_wp2_with fail
          refine (sameF_any zk _).mono ?_
          rintro e w' ⟨rfl, rfl⟩
          go_wp2_with fail
          go_roundw
          case rel => exact ⟨k + 1, by omega, by go_num, by first | rfl | trivial⟩
          case measure => simp [intOf]; omega
    · obtain rfl : n = k := by omega
      go_wp2_with fail
      go_ret
      exact ⟨rfl, B⟩

set_option maxHeartbeats 1000000 in
theorem walk (a0 : Option Addr) (len0 cap0 : Nat) (z0 : List Nat) (a1 : Int) (a2 : Int) (w : World) (r0 : IsRow (.float .f64) 0 w a0 len0 cap0 z0) (w0 : ∀ z ∈ z0, (Lit.float .f64 z).wf = true) (w1 : (Lit.int .i64 a1).wf = true) (w2 : (Lit.int .i64 a2).wf = true) :
    Calls Try.prog 4 #[.slice a0 len0 cap0, .int .i64 a1, .int .i64 a2] w fun e w' => e = .returned (.bool true) ∧ Below w.heap.size w w' := by
  have hv1 := i64_bd w1
  have hv2 := i64_bd w2
  have m0 := r0.2.1
  have m0' := r0.2.2.1
  unfold maxLen at m0'
  by_cases g1 : (131072 : Int) < (len0 : Int)
  · clear r0
    go_enter Try.func4, Try.ntmps4
    go_wp2_with (go_at_call 13; go_in)
    all_goals (go_ret; exact ⟨rfl, Below.refl _ _⟩)
  by_cases g2 : a1 < 0
  · clear r0
    go_enter Try.func4, Try.ntmps4
    go_wp2_with (go_at_call 13; go_in)
    all_goals (go_ret; exact ⟨rfl, Below.refl _ _⟩)
  by_cases g3 : (len0 : Int) ≤ a1
  · clear r0
    go_enter Try.func4, Try.ntmps4
    go_wp2_with (go_at_call 13; go_in)
    all_goals (go_ret; exact ⟨rfl, Below.refl _ _⟩)
  by_cases g4 : a2 < 0
  · clear r0
    go_enter Try.func4, Try.ntmps4
    go_wp2_with (go_at_call 13; go_in)
    all_goals (go_ret; exact ⟨rfl, Below.refl _ _⟩)
  by_cases g5 : (len0 : Int) ≤ a2
  · clear r0
    go_enter Try.func4, Try.ntmps4
    go_wp2_with (go_at_call 13; go_in)
    all_goals (go_ret; exact ⟨rfl, Below.refl _ _⟩)
  obtain ⟨i, rfl⟩ := Int.eq_ofNat_of_zero_le (show 0 ≤ a1 by omega)
  obtain ⟨j, rfl⟩ := Int.eq_ofNat_of_zero_le (show 0 ≤ a2 by omega)
  exact main a0 len0 cap0 z0 i j w r0 (by omega) (by omega) (by omega)
end Go.Proofs.Ytbpkncpkgmehiaa.fnSorterSwapExchangesExactlyTwo
