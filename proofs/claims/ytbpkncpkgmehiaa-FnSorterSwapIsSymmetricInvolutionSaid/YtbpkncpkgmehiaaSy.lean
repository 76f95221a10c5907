/- The walk of FnSorterSwapIsSymmetricInvolution: the Go text returns true and writes nothing that was there. -/
import Derived.Test.YtbpkncpkgmehiaaSw
import Derived.Test.YtbpkncpkgmehiaaCloneF64
namespace Go.Proofs.Ytbpkncpkgmehiaa.fnSorterSwapIsSymmetricInvolution
open Go.ChangeShapes Go.WideShapes Go.ChangeAt Go.RowKit
set_option linter.unusedVariables false

theorem swp_sym (z : List Nat) (i j k : Nat) (hi : i < z.length) (hj : j < z.length) : (swp z j i).getD k 0 = (swp z i j).getD k 0 := by
  rw [swp_at z i j k hi hj, swp_at z j i k hj hi]
  by_cases e : k = j
  · by_cases e2 : k = i
    · rw [if_pos e2, if_pos e, ← e, ← e2]
    · rw [if_neg e2, if_pos e, if_pos e]
  · rw [if_neg e, if_neg e]
theorem swp_swp (z : List Nat) (i j k : Nat) (hi : i < z.length) (hj : j < z.length) : (swp (swp z i j) i j).getD k 0 = z.getD k 0 := by
  have l := swp_len z i j
  rw [swp_at _ i j k (by omega) (by omega), swp_at z i j i hi hj, swp_at z i j j hi hj, swp_at z i j k hi hj]
  by_cases e : k = j
  · rw [if_pos e]
    by_cases e2 : i = j
    · rw [if_pos e2, e, e2]
    · rw [if_neg e2, if_pos rfl, e]
  · rw [if_neg e]
    by_cases e2 : k = i
    · rw [if_pos e2, if_pos rfl, e2]
    · rw [if_neg e2, if_neg e, if_neg e2]

set_option maxHeartbeats 2000000 in
theorem main (a : Option Addr) (n cap : Nat) (z : List Nat) (i j : Nat) (w : World) (r0 : IsRow (.float .f64) 0 w a n cap z) (hn : n ≤ 131072) (hi : i < n) (hj : j < n) :
    Calls Try.prog 5 #[.slice a n cap, .int .i64 i, .int .i64 j] w fun e w' => e = .returned (.bool true) ∧ Below w.heap.size w w' := by
  have l0 := Lib.hid r0.1
  have hi' : (i : Int) < (n : Int) := by omega
  have hj' : (j : Int) < (n : Int) := by omega
  have hi2 : decide ((n : Int) ≤ (i : Int)) = false := by simp; omega
  have hj2 : decide ((n : Int) ≤ (j : Int)) = false := by simp; omega
  go_enter Try.func5, Try.ntmps5
  go_wp2_with (go_at_call 19; go_in)
  refine (cloneF64_any _ _ _ z _ r0 (by omega)).mono ?_
  rintro e w1 C
  obtain ⟨d, rfl, g1, rg1, B⟩ := C.rng
  clear C r0
  go_wp2_with fail
  refine (newSorter_any d n n z _ (got_row g1 l0.out (by omega)) (by omega)).mono ?_
  rintro e w2 ⟨g, rfl, q1, R, b2⟩
  have s1 := B.size
  have s2 := b2.size
  replace g1 := got_below g1 b2
  replace B := bel_trans B b2 s1
  clear b2
  go_wp2_with fail
  have S := lf_at w2 [.pointer none, .pointer none, .slice (some ⟨g, 0, none⟩) n n] 38 _ rfl
  replace S : World.rowIs (w2.alloc (.cells #[.pointer none, .pointer none, .slice (some ⟨g, 0, none⟩) n n] 38)) w2.heap.size 38 3 _ := S
  have R_lt := R.lt
  replace R := R.alloc (.cells #[.pointer none, .pointer none, .slice (some ⟨g, 0, none⟩) n n] 38)
  replace g1 := got_alloc g1 (.cells #[.pointer none, .pointer none, .slice (some ⟨g, 0, none⟩) n n] 38)
  replace B := B.alloc B.size (.cells #[.pointer none, .pointer none, .slice (some ⟨g, 0, none⟩) n n] 38)
  have z_H : (w2.alloc (.cells #[.pointer none, .pointer none, .slice (some ⟨g, 0, none⟩) n n] 38)).heap.size = w2.heap.size + 1 := by simp
  obtain ⟨v2, h_v2⟩ : ∃ v, w2.alloc (.cells #[.pointer none, .pointer none, .slice (some ⟨g, 0, none⟩) n n] 38) = v := ⟨_, rfl⟩
  obtain ⟨H, h_H⟩ : ∃ H, w2.heap.size = H := ⟨_, rfl⟩
  rw [h_H] at S z_H R_lt ⊢
  rw [h_v2] at S z_H R g1 B ⊢
  have l_H : w.heap.size ≤ H := by omega
  clear h_v2 h_H
  have SH := Lib.hid S
  have RH := Lib.hid R
  clear S R
  refine (newSorter_any d n n z _ (got_row g1 l0.out (by omega)) (by omega)).mono ?_
  rintro e w3 ⟨g', rfl, q3, R', b3⟩
  have s3 := b3.size
  replace g1 := got_below g1 b3
  have SX := Lib.hid (rowIs_below b3 (by omega) SH.out)
  have RX := Lib.hid (rowIs_below b3 (by omega) RH.out)
  replace B := bel_trans B b3 B.size
  clear b3 SH RH
  have SH := Lib.hid SX.out
  have RH := Lib.hid RX.out
  clear SX RX
  have t0 : w3.cell? ⟨H, 0, none⟩ = some (.pointer none) := SH.out.cell (i := 0) (by omega)
  have t1 : w3.cell? ⟨H, 1, none⟩ = some (.pointer none) := SH.out.cell (i := 1) (by omega)
  have t2 : w3.cell? ⟨H, 2, none⟩ = some (.slice (some ⟨g, 0, none⟩) n n) := SH.out.cell (i := 2) (by omega)
  have hHl := SH.out.lt
  go_wp2_with fail
  clear t0 t1 t2
  have S := SH.out
  have R := RH.out
  clear SH RH
  have S' := lf_at w3 [.pointer none, .pointer none, .slice (some ⟨g', 0, none⟩) n n] 38 _ rfl
  replace S' : World.rowIs (w3.alloc (.cells #[.pointer none, .pointer none, .slice (some ⟨g', 0, none⟩) n n] 38)) w3.heap.size 38 3 _ := S'
  have R_lt := R.lt
  replace R := R.alloc (.cells #[.pointer none, .pointer none, .slice (some ⟨g', 0, none⟩) n n] 38)
  have S_lt := S.lt
  replace S := S.alloc (.cells #[.pointer none, .pointer none, .slice (some ⟨g', 0, none⟩) n n] 38)
  have R'_lt := R'.lt
  replace R' := R'.alloc (.cells #[.pointer none, .pointer none, .slice (some ⟨g', 0, none⟩) n n] 38)
  replace g1 := got_alloc g1 (.cells #[.pointer none, .pointer none, .slice (some ⟨g', 0, none⟩) n n] 38)
  replace B := B.alloc B.size (.cells #[.pointer none, .pointer none, .slice (some ⟨g', 0, none⟩) n n] 38)
  have z_H' : (w3.alloc (.cells #[.pointer none, .pointer none, .slice (some ⟨g', 0, none⟩) n n] 38)).heap.size = w3.heap.size + 1 := by simp
  obtain ⟨v3, h_v3⟩ : ∃ v, w3.alloc (.cells #[.pointer none, .pointer none, .slice (some ⟨g', 0, none⟩) n n] 38) = v := ⟨_, rfl⟩
  obtain ⟨H', h_H'⟩ : ∃ H, w3.heap.size = H := ⟨_, rfl⟩
  rw [h_H'] at S' z_H' R_lt S_lt R'_lt ⊢
  rw [h_v3] at S' z_H' R S R' g1 B ⊢
  have l_H' : w.heap.size ≤ H' := by omega
  clear h_v3 h_H'
  have l1 : g < H := by omega
  have l2 : H < g' := by omega
  have l3 : g' < H' := by omega
  have l4 : w.heap.size ≤ g := by omega
  have SH := Lib.hid S
  have RH := Lib.hid R
  have SH' := Lib.hid S'
  have RH' := Lib.hid R'
  clear S R S' R'
  refine (swap_any g n i j z _ RH.out l0.out hi hj).mono ?_
  rintro e w4 ⟨rfl, R, s_w4, b_w4, k_w4⟩
  replace B := B.trans (b_w4.mono (show w.heap.size ≤ g by omega))
  replace g1 := got_of g1 (fun x hx hl => b_w4.block x.block (by have := rg1 x hx; omega))
  clear RH
  have RH := Lib.hid R
  clear R
  have X := Lib.hid (World.rowIs.of_block SH.out (k_w4 H (by have := SH.out.lt; omega) (by omega)))
  clear SH
  have SH := Lib.hid X.out
  clear X
  have X := Lib.hid (World.rowIs.of_block SH'.out (k_w4 H' (by have := SH'.out.lt; omega) (by omega)))
  clear SH'
  have SH' := Lib.hid X.out
  clear X
  have X := Lib.hid (World.rowIs.of_block RH'.out (k_w4 g' (by have := RH'.out.lt; omega) (by omega)))
  clear RH'
  have RH' := Lib.hid X.out
  clear X
  clear b_w4 k_w4
  have t0 : w4.cell? ⟨H', 0, none⟩ = some (.pointer none) := SH'.out.cell (i := 0) (by omega)
  have t1 : w4.cell? ⟨H', 1, none⟩ = some (.pointer none) := SH'.out.cell (i := 1) (by omega)
  have t2 : w4.cell? ⟨H', 2, none⟩ = some (.slice (some ⟨g', 0, none⟩) n n) := SH'.out.cell (i := 2) (by omega)
  go_wp2_with fail
  clear t0 t1 t2
  refine (swap_any g' n j i z _ RH'.out l0.out hj hi).mono ?_
  rintro e w5 ⟨rfl, R, s_w5, b_w5, k_w5⟩
  replace B := B.trans (b_w5.mono (show w.heap.size ≤ g' by omega))
  replace g1 := got_of g1 (fun x hx hl => b_w5.block x.block (by have := rg1 x hx; omega))
  clear RH'
  have RH' := Lib.hid R
  clear R
  have X := Lib.hid (World.rowIs.of_block SH.out (k_w5 H (by have := SH.out.lt; omega) (by omega)))
  clear SH
  have SH := Lib.hid X.out
  clear X
  have X := Lib.hid (World.rowIs.of_block SH'.out (k_w5 H' (by have := SH'.out.lt; omega) (by omega)))
  clear SH'
  have SH' := Lib.hid X.out
  clear X
  have X := Lib.hid (World.rowIs.of_block RH.out (k_w5 g (by have := RH.out.lt; omega) (by omega)))
  clear RH
  have RH := Lib.hid X.out
  clear X
  clear b_w5 k_w5
  have t0 : w5.cell? ⟨H, 0, none⟩ = some (.pointer none) := SH.out.cell (i := 0) (by omega)
  have t1 : w5.cell? ⟨H, 1, none⟩ = some (.pointer none) := SH.out.cell (i := 1) (by omega)
  have t2 : w5.cell? ⟨H, 2, none⟩ = some (.slice (some ⟨g, 0, none⟩) n n) := SH.out.cell (i := 2) (by omega)
  go_wp2_with fail
  clear t0 t1 t2
  refine (nums_any g n (swp z i j) _ RH.out (by omega)).mono ?_
  rintro e w6 ⟨o, rfl, q_w6, R, b_w6⟩
  have s_w6 := b_w6.size
  replace g1 := got_below g1 b_w6
  replace B := bel_trans B b_w6 B.size
  have OA := Lib.hid R
  clear R
  have X := Lib.hid (rowIs_below b_w6 (by have := SH.out.lt; omega) SH.out)
  clear SH
  have SH := Lib.hid X.out
  clear X
  have X := Lib.hid (rowIs_below b_w6 (by have := SH'.out.lt; omega) SH'.out)
  clear SH'
  have SH' := Lib.hid X.out
  clear X
  have X := Lib.hid (rowIs_below b_w6 (by have := RH.out.lt; omega) RH.out)
  clear RH
  have RH := Lib.hid X.out
  clear X
  have X := Lib.hid (rowIs_below b_w6 (by have := RH'.out.lt; omega) RH'.out)
  clear RH'
  have RH' := Lib.hid X.out
  clear X
  clear b_w6
  have t0 : w6.cell? ⟨H', 0, none⟩ = some (.pointer none) := SH'.out.cell (i := 0) (by omega)
  have t1 : w6.cell? ⟨H', 1, none⟩ = some (.pointer none) := SH'.out.cell (i := 1) (by omega)
  have t2 : w6.cell? ⟨H', 2, none⟩ = some (.slice (some ⟨g', 0, none⟩) n n) := SH'.out.cell (i := 2) (by omega)
  go_wp2_with fail
  clear t0 t1 t2
  refine (nums_any g' n (swp z j i) _ RH'.out (by omega)).mono ?_
  rintro e w7 ⟨o', rfl, q_w7, R, b_w7⟩
  have s_w7 := b_w7.size
  replace g1 := got_below g1 b_w7
  replace B := bel_trans B b_w7 B.size
  have OB := Lib.hid R
  clear R
  have X := Lib.hid (rowIs_below b_w7 (by have := SH.out.lt; omega) SH.out)
  clear SH
  have SH := Lib.hid X.out
  clear X
  have X := Lib.hid (rowIs_below b_w7 (by have := SH'.out.lt; omega) SH'.out)
  clear SH'
  have SH' := Lib.hid X.out
  clear X
  have X := Lib.hid (rowIs_below b_w7 (by have := RH.out.lt; omega) RH.out)
  clear RH
  have RH := Lib.hid X.out
  clear X
  have X := Lib.hid (rowIs_below b_w7 (by have := RH'.out.lt; omega) RH'.out)
  clear RH'
  have RH' := Lib.hid X.out
  clear X
  have X := Lib.hid (rowIs_below b_w7 (by have := OA.out.lt; omega) OA.out)
  clear OA
  have OA := Lib.hid X.out
  clear X
  clear b_w7
  go_wp2_with fail
  go_loopw [12] (fun i wr => ∃ k m : Nat, k ≤ n ∧ i = .int .i64 k ∧ wr = w7.drewN m) (fun i _ => n - (intOf i).toNat)
  case atStart => exact ⟨0, 0, Nat.zero_le _, rfl, rfl⟩
  case round =>
    obtain ⟨k, m, hk, rfl, rfl⟩ := hrel
    by_cases hlt : k < n
    · have hlt' : (k : Int) < (n : Int) := by omega
      obtain ⟨zk, hzk⟩ : ∃ q, (swp z i j).getD k 0 = q := ⟨_, rfl⟩
      have ca : w7.cell? ⟨o, k, none⟩ = some (.float .f64 zk) := by rw [← hzk]; exact OA.out.cell (i := k) hlt
      have cb : w7.cell? ⟨o', k, none⟩ = some (.float .f64 zk) := by rw [← hzk, ← swp_sym z i j k (by have := l0.out; omega) (by have := l0.out; omega)]; exact OB.out.cell (i := k) hlt
      clear hzk
      go_wp2_with fail
      go_quiet ((go_at_call 18; first | exact quietL (sameF_any zk _) | exact quietL2 (sameF_any zk _)))
      go_wp2_with fail
      go_roundw
      case rel => exact ⟨k + 1, _, by omega, by go_num, rfl⟩
      case measure => simp [intOf]; omega
    · obtain rfl : n = k := by omega
      have SX := Lib.hid (show (w7.drewN m).rowIs H 38 3 _ from SH.out)
      have RX := Lib.hid (show (w7.drewN m).rowIs g 77 n _ from RH.out)
      have gX := got_of g1 (w' := w7.drewN m) (fun _ _ _ => rfl)
      have BX := below_drewN B m
      have zX : (w7.drewN m).heap.size = w7.heap.size := rfl
      obtain ⟨wx, hx⟩ : ∃ v, w7.drewN m = v := ⟨_, rfl⟩
      rw [hx] at SX RX gX BX zX ⊢
      clear SH RH g1 B hx
      have SH := Lib.hid SX.out
      have RH := Lib.hid RX.out
      have g1 := gX
      have B := BX
      clear SX RX gX BX
      have t0 : wx.cell? ⟨H, 0, none⟩ = some (.pointer none) := SH.out.cell (i := 0) (by omega)
      have t1 : wx.cell? ⟨H, 1, none⟩ = some (.pointer none) := SH.out.cell (i := 1) (by omega)
      have t2 : wx.cell? ⟨H, 2, none⟩ = some (.slice (some ⟨g, 0, none⟩) n n) := SH.out.cell (i := 2) (by omega)
      go_wp2_with fail
      clear t0 t1 t2
      refine (swap_any g n i j (swp z i j) _ RH.out ((swp_len z i j).trans l0.out) hi hj).mono ?_
      rintro e w8 ⟨rfl, R, s_w8, b_w8, k_w8⟩
      replace B := B.trans (b_w8.mono (show w.heap.size ≤ g by omega))
      replace g1 := got_of g1 (fun x hx hl => b_w8.block x.block (by have := rg1 x hx; omega))
      clear RH
      have RH := Lib.hid R
      clear R
      have X := Lib.hid (World.rowIs.of_block SH.out (k_w8 H (by have := SH.out.lt; omega) (by omega)))
      clear SH
      have SH := Lib.hid X.out
      clear X
      clear b_w8 k_w8
      have t0 : w8.cell? ⟨H, 0, none⟩ = some (.pointer none) := SH.out.cell (i := 0) (by omega)
      have t1 : w8.cell? ⟨H, 1, none⟩ = some (.pointer none) := SH.out.cell (i := 1) (by omega)
      have t2 : w8.cell? ⟨H, 2, none⟩ = some (.slice (some ⟨g, 0, none⟩) n n) := SH.out.cell (i := 2) (by omega)
      go_wp2_with fail
      clear t0 t1 t2
      refine (nums_any g n (swp (swp z i j) i j) _ RH.out (by omega)).mono ?_
      rintro e w9 ⟨o3, rfl, q_w9, R, b_w9⟩
      have s_w9 := b_w9.size
      replace g1 := got_below g1 b_w9
      replace B := bel_trans B b_w9 B.size
      have OC := Lib.hid R
      clear R
      clear b_w9
      go_wp2_with fail
      obtain ⟨x1, hx1, hB1, hr1⟩ := got_pos g1 (by omega)
      have HX1 := Lib.hid hx1
      rw [hx1]
      have HR1 := Lib.hid hr1
      clear hx1 g1 hr1
      go_loopw [14] (fun i wr => ∃ k m : Nat, k ≤ n ∧ i = .int .i64 k ∧ wr = w9.drewN m) (fun i _ => n - (intOf i).toNat)
      case atStart => exact ⟨0, 0, Nat.zero_le _, rfl, rfl⟩
      case round =>
        obtain ⟨k, m, hk, rfl, rfl⟩ := hrel
        by_cases hlt : k < n
        · have hlt' : (k : Int) < (n : Int) := by omega
          obtain ⟨zk, hzk⟩ : ∃ q, z.getD k 0 = q := ⟨_, rfl⟩
          have ca : w9.cell? ⟨x1, k, none⟩ = some (.float .f64 zk) := by rw [← hzk]; exact HR1.out.cell (i := k) hlt
          have cb : w9.cell? ⟨o3, k, none⟩ = some (.float .f64 zk) := by rw [← hzk, ← swp_swp z i j k (by have := l0.out; omega) (by have := l0.out; omega)]; exact OC.out.cell (i := k) hlt
          clear hzk
          go_wp2_with fail
          go_quiet ((go_at_call 18; first | exact quietL (sameF_any zk _) | exact quietL2 (sameF_any zk _)))
          go_wp2_with fail
          go_roundw
          case rel => exact ⟨k + 1, _, by omega, by go_num, rfl⟩
          case measure => simp [intOf]; omega
        · obtain rfl : n = k := by omega
          go_wp2_with fail
          go_ret
          exact ⟨rfl, below_drewN B m⟩

set_option maxHeartbeats 1000000 in
theorem walk (a0 : Option Addr) (len0 cap0 : Nat) (z0 : List Nat) (a1 : Int) (a2 : Int) (w : World) (r0 : IsRow (.float .f64) 0 w a0 len0 cap0 z0) (w0 : ∀ z ∈ z0, (Lit.float .f64 z).wf = true) (w1 : (Lit.int .i64 a1).wf = true) (w2 : (Lit.int .i64 a2).wf = true) :
    Calls Try.prog 5 #[.slice a0 len0 cap0, .int .i64 a1, .int .i64 a2] w fun e w' => e = .returned (.bool true) ∧ Below w.heap.size w w' := by
  have hv1 := i64_bd w1
  have hv2 := i64_bd w2
  have m0 := r0.2.1
  have m0' := r0.2.2.1
  unfold maxLen at m0'
  by_cases g1 : (131072 : Int) < (len0 : Int)
  · clear r0
    go_enter Try.func5, Try.ntmps5
    go_wp2_with (go_at_call 19; go_in)
    all_goals (go_ret; exact ⟨rfl, Below.refl _ _⟩)
  by_cases g2 : a1 < 0
  · clear r0
    go_enter Try.func5, Try.ntmps5
    go_wp2_with (go_at_call 19; go_in)
    all_goals (go_ret; exact ⟨rfl, Below.refl _ _⟩)
  by_cases g3 : (len0 : Int) ≤ a1
  · clear r0
    go_enter Try.func5, Try.ntmps5
    go_wp2_with (go_at_call 19; go_in)
    all_goals (go_ret; exact ⟨rfl, Below.refl _ _⟩)
  by_cases g4 : a2 < 0
  · clear r0
    go_enter Try.func5, Try.ntmps5
    go_wp2_with (go_at_call 19; go_in)
    all_goals (go_ret; exact ⟨rfl, Below.refl _ _⟩)
  by_cases g5 : (len0 : Int) ≤ a2
  · clear r0
    go_enter Try.func5, Try.ntmps5
    go_wp2_with (go_at_call 19; go_in)
    all_goals (go_ret; exact ⟨rfl, Below.refl _ _⟩)
  obtain ⟨i, rfl⟩ := Int.eq_ofNat_of_zero_le (show 0 ≤ a1 by omega)
  obtain ⟨j, rfl⟩ := Int.eq_ofNat_of_zero_le (show 0 ≤ a2 by omega)
  exact main a0 len0 cap0 z0 i j w r0 (by omega) (by omega) (by omega)
end Go.Proofs.Ytbpkncpkgmehiaa.fnSorterSwapIsSymmetricInvolution
