/- The walk of FnSetBLastWriteWinsAndReadsBack: the Go text returns true and writes nothing that was there. -/
import Derived.Test.YtgnommaelahjlaaSt41
import Derived.Test.YtgnommaelahjlaaCloneU32
import Derived.Test.YtgnommaelahjlaaEqU32
namespace Go.Proofs.Ytgnommaelahjlaa.fnSetBLastWriteWinsAndReadsBack
open Go.ChangeShapes Go.WideShapes Go.ChangeAt Go.RowKit
set_option linter.unusedVariables false

theorem rb (x v : Int) (h0 : 0 ≤ v) (h : v ≤ 511) : (setBv x v % 512 != v) = false := by
  have : setBv x v % 512 = v := by unfold setBv; omega
  simp [this]
theorem ra (x v : Int) : (setBv x v / 262144 % 256 != x / 262144 % 256) = false := by
  have : setBv x v / 262144 % 256 = x / 262144 % 256 := by unfold setBv; omega
  simp [this]
theorem ro (x v : Int) : (setBv x v / 67108864 != x / 67108864) = false := by
  have : setBv x v / 67108864 = x / 67108864 := by unfold setBv; omega
  simp [this]

set_option maxHeartbeats 400000 in
theorem main (a0 : Option Addr) (len cap0 : Nat) (z0 : List Int) (p : Nat) (v1 v2 : Int) (w : World) (r0 : IsRow (.int .u32) 0 w a0 len cap0 z0) (w0 : ∀ z ∈ z0, (Lit.int .u32 z).wf = true)
    (hl : len ≤ 65536) (hp : p < len) :
    Calls Try.prog 7 #[.slice a0 len cap0, .int .i64 p, .int .i64 v1, .int .i64 v2] w fun e w' => e = .returned (.bool true) ∧ Below w.heap.size w w' := by
  have l0 := Lib.hid r0.1
  have u0 := u32s_of w0
  have B := Below.refl w.heap.size w
  go_enter Try.func7, Try.ntmps7
  go_wp2_with (go_at_call 20; go_in)
  have s0 := Nat.le_refl w.heap.size
  go_wp2_with fail
  refine (cloneU32_any _ _ _ z0 _ r0 (by omega)).mono ?_
  rintro e w1 C
  obtain ⟨k1, rfl, lo1, hi1, q1, b1⟩ := C.pos (by omega)
  clear C
  have s1 := b1.size
  replace r0 := row_below r0 b1
  replace B := bel_trans B b1 B.size
  clear b1
  go_wp2_with fail
  refine (cloneU32_any _ _ _ z0 _ (rowIs_row q1 l0.out (by omega)) (by omega)).mono ?_
  rintro e w2 C
  obtain ⟨k2, rfl, lo2, hi2, q2, b2⟩ := C.pos (by omega)
  clear C
  have s2 := b2.size
  replace q1 := rowIs_below b2 q1.lt q1
  replace B := bel_trans B b2 B.size
  clear b2
  go_wp2_with fail
  refine (cloneU32_any _ _ _ z0 _ (rowIs_row q1 l0.out (by omega)) (by omega)).mono ?_
  rintro e w3 C
  obtain ⟨k3, rfl, lo3, hi3, q3, b3⟩ := C.pos (by omega)
  clear C
  have s3 := b3.size
  replace q1 := rowIs_below b3 q1.lt q1
  replace q2 := rowIs_below b3 q2.lt q2
  replace B := bel_trans B b3 B.size
  clear b3
  go_wp2_with fail
  refine (newStore_any _ _ _ _).mono ?_
  rintro e w4 ⟨rfl, h4⟩
  have t4 := st3_alloc w3 (.slice (some ⟨k1, 0, none⟩) len len) (.slice none 0 0) (.int .i64 0) 57
  have s4 : w3.heap.size ≤ (w3.alloc (.cells #[.slice (some ⟨k1, 0, none⟩) len len, .slice none 0 0, .int .i64 0] 57)).heap.size := by simp
  replace q1 := q1.alloc (.cells #[.slice (some ⟨k1, 0, none⟩) len len, .slice none 0 0, .int .i64 0] 57)
  replace q2 := q2.alloc (.cells #[.slice (some ⟨k1, 0, none⟩) len len, .slice none 0 0, .int .i64 0] 57)
  replace q3 := q3.alloc (.cells #[.slice (some ⟨k1, 0, none⟩) len len, .slice none 0 0, .int .i64 0] 57)
  replace B := B.alloc B.size (.cells #[.slice (some ⟨k1, 0, none⟩) len len, .slice none 0 0, .int .i64 0] 57)
  rw [h4] at t4 B s4 q1 q2 q3
  clear h4
  obtain ⟨c4, hc4⟩ : ∃ c, w3.heap.size = c := ⟨_, rfl⟩
  have lo4 : w3.heap.size ≤ c4 := by omega
  rw [hc4] at t4 ⊢
  have HC4 := Lib.hid hc4
  clear hc4
  have hi4 : c4 < w4.heap.size := t4.lt
  obtain ⟨x5, hx5⟩ : ∃ x, (z0).getD p 0 = x := ⟨_, rfl⟩
  have xb5 := u0 p
  rw [hx5] at xb5
  have cx5 := Lib.hid (show w4.cell? ⟨k1, p, none⟩ = some (.int .u32 x5) from by rw [← hx5]; exact q1.cell hp)
  have HX5 := Lib.hid hx5
  clear hx5
  have yb5 := setBv_bd x5 v1 xb5.1 xb5.2
  go_wp2_with fail
  refine (zzSetB_any c4 k1 len len p x5 v1 _ (t4.cell (i := 0) (by omega)) hp (by omega) cx5.out (q1.frozen p) xb5.1 xb5.2).mono ?_
  rintro e w5 ⟨rfl, h5⟩
  replace q1 := row_store q1 p (setBv x5 v1) l0.out hp
  replace q2 := q2.setOther (a := ⟨k1, p, none⟩) (show k2 ≠ k1 by omega) (.int .u32 (setBv x5 v1))
  replace q3 := q3.setOther (a := ⟨k1, p, none⟩) (show k3 ≠ k1 by omega) (.int .u32 (setBv x5 v1))
  replace t4 := t4.setOther (a := ⟨k1, p, none⟩) (show c4 ≠ k1 by omega) (.int .u32 (setBv x5 v1))
  replace B := B.setCell (p := ⟨k1, p, none⟩) (show w.heap.size ≤ k1 by omega) (.int .u32 (setBv x5 v1))
  have s5 : w4.heap.size ≤ (w4.setCell ⟨k1, p, none⟩ (.int .u32 (setBv x5 v1))).heap.size := by simp [World.setCell]
  rw [h5] at B s5 q1 q2 q3 t4
  clear h5 cx5
  have u5 := u0.set p yb5
  have g5 := Lib.hid (getD_set_self (zs := z0) (setBv x5 v1) l0.out hp)
  obtain ⟨x6, hx6⟩ : ∃ x, ((z0).set p (setBv x5 v1)).getD p 0 = x := ⟨_, rfl⟩
  have xb6 := u5 p
  rw [hx6] at xb6
  have cx6 := Lib.hid (show w5.cell? ⟨k1, p, none⟩ = some (.int .u32 x6) from by rw [← hx6]; exact q1.cell hp)
  have HX6 := Lib.hid hx6
  clear hx6
  have yb6 := setBv_bd x6 v2 xb6.1 xb6.2
  go_wp2_with fail
  refine (zzSetB_any c4 k1 len len p x6 v2 _ (t4.cell (i := 0) (by omega)) hp (by omega) cx6.out (q1.frozen p) xb6.1 xb6.2).mono ?_
  rintro e w6 ⟨rfl, h6⟩
  replace q1 := row_store q1 p (setBv x6 v2) (by rw [List.length_set]; exact l0.out) hp
  replace q2 := q2.setOther (a := ⟨k1, p, none⟩) (show k2 ≠ k1 by omega) (.int .u32 (setBv x6 v2))
  replace q3 := q3.setOther (a := ⟨k1, p, none⟩) (show k3 ≠ k1 by omega) (.int .u32 (setBv x6 v2))
  replace t4 := t4.setOther (a := ⟨k1, p, none⟩) (show c4 ≠ k1 by omega) (.int .u32 (setBv x6 v2))
  replace B := B.setCell (p := ⟨k1, p, none⟩) (show w.heap.size ≤ k1 by omega) (.int .u32 (setBv x6 v2))
  have s6 : w5.heap.size ≤ (w5.setCell ⟨k1, p, none⟩ (.int .u32 (setBv x6 v2))).heap.size := by simp [World.setCell]
  rw [h6] at B s6 q1 q2 q3 t4
  clear h6 cx6
  have u6 := u5.set p yb6
  have g6 := Lib.hid (getD_set_self (zs := (z0).set p (setBv x5 v1)) (setBv x6 v2) (by rw [List.length_set]; exact l0.out) hp)
  go_wp2_with fail
  refine (newStore_any _ _ _ _).mono ?_
  rintro e w7 ⟨rfl, h7⟩
  have t7 := st3_alloc w6 (.slice (some ⟨k3, 0, none⟩) len len) (.slice none 0 0) (.int .i64 0) 57
  have s7 : w6.heap.size ≤ (w6.alloc (.cells #[.slice (some ⟨k3, 0, none⟩) len len, .slice none 0 0, .int .i64 0] 57)).heap.size := by simp
  replace q1 := q1.alloc (.cells #[.slice (some ⟨k3, 0, none⟩) len len, .slice none 0 0, .int .i64 0] 57)
  replace q2 := q2.alloc (.cells #[.slice (some ⟨k3, 0, none⟩) len len, .slice none 0 0, .int .i64 0] 57)
  replace q3 := q3.alloc (.cells #[.slice (some ⟨k3, 0, none⟩) len len, .slice none 0 0, .int .i64 0] 57)
  replace t4 := t4.alloc (.cells #[.slice (some ⟨k3, 0, none⟩) len len, .slice none 0 0, .int .i64 0] 57)
  replace B := B.alloc B.size (.cells #[.slice (some ⟨k3, 0, none⟩) len len, .slice none 0 0, .int .i64 0] 57)
  rw [h7] at t7 B s7 q1 q2 q3 t4
  clear h7
  obtain ⟨c7, hc7⟩ : ∃ c, w6.heap.size = c := ⟨_, rfl⟩
  have lo7 : w6.heap.size ≤ c7 := by omega
  rw [hc7] at t7 ⊢
  have HC7 := Lib.hid hc7
  clear hc7
  have hi7 : c7 < w7.heap.size := t7.lt
  obtain ⟨x8, hx8⟩ : ∃ x, (z0).getD p 0 = x := ⟨_, rfl⟩
  have xb8 := u0 p
  rw [hx8] at xb8
  have cx8 := Lib.hid (show w7.cell? ⟨k3, p, none⟩ = some (.int .u32 x8) from by rw [← hx8]; exact q3.cell hp)
  have HX8 := Lib.hid hx8
  clear hx8
  have yb8 := setBv_bd x8 v2 xb8.1 xb8.2
  go_wp2_with fail
  refine (zzSetB_any c7 k3 len len p x8 v2 _ (t7.cell (i := 0) (by omega)) hp (by omega) cx8.out (q3.frozen p) xb8.1 xb8.2).mono ?_
  rintro e w8 ⟨rfl, h8⟩
  replace q1 := q1.setOther (a := ⟨k3, p, none⟩) (show k1 ≠ k3 by omega) (.int .u32 (setBv x8 v2))
  replace q2 := q2.setOther (a := ⟨k3, p, none⟩) (show k2 ≠ k3 by omega) (.int .u32 (setBv x8 v2))
  replace q3 := row_store q3 p (setBv x8 v2) l0.out hp
  replace t4 := t4.setOther (a := ⟨k3, p, none⟩) (show c4 ≠ k3 by omega) (.int .u32 (setBv x8 v2))
  replace t7 := t7.setOther (a := ⟨k3, p, none⟩) (show c7 ≠ k3 by omega) (.int .u32 (setBv x8 v2))
  replace B := B.setCell (p := ⟨k3, p, none⟩) (show w.heap.size ≤ k3 by omega) (.int .u32 (setBv x8 v2))
  have s8 : w7.heap.size ≤ (w7.setCell ⟨k3, p, none⟩ (.int .u32 (setBv x8 v2))).heap.size := by simp [World.setCell]
  rw [h8] at B s8 q1 q2 q3 t4 t7
  clear h8 cx8
  have u8 := u0.set p yb8
  have g8 := Lib.hid (getD_set_self (zs := z0) (setBv x8 v2) l0.out hp)
  have e1 : x8 = x5 := by rw [← HX8.out, ← HX5.out]
  have e2 : x6 = setBv x5 v1 := by rw [← HX6.out]; exact g5.out
  have ee : (z0).set p (setBv x8 v2) = ((z0).set p (setBv x5 v1)).set p (setBv x6 v2) := by rw [List.set_set, e2, setB_setB _ _ _ xb5.1 xb5.2, e1]
  have e3 : setBv x6 v2 = setBv x5 v2 := by rw [e2, setB_setB _ _ _ xb5.1 xb5.2]
  have EE := Lib.hid ee
  have E3 := Lib.hid e3
  clear ee e1 e2 e3
  go_wp2_with fail
  refine (eqU32_same _ _ len len len (((z0).set p (setBv x5 v1)).set p (setBv x6 v2)) _ (rowIs_row q1 (by rw [List.length_set]; exact (by rw [List.length_set]; exact l0.out)) (by omega)) (rowIs_row (by rw [← EE.out]; exact q3) (by rw [List.length_set]; exact (by rw [List.length_set]; exact l0.out)) (by omega)) (by omega)).mono ?_
  rintro e w9 ⟨rfl, b9⟩
  replace q1 := rowIs_below b9 q1.lt q1
  replace q2 := rowIs_below b9 q2.lt q2
  replace q3 := rowIs_below b9 q3.lt q3
  replace t4 := rowIs_below b9 t4.lt t4
  replace t7 := rowIs_below b9 t7.lt t7
  replace B := bel_trans B b9 B.size
  clear b9
  have cy : w9.cell? ⟨k1, p, none⟩ = some (.int .u32 (setBv x5 v2)) := by rw [← E3.out, ← g6.out]; exact q1.cell hp
  have co : w9.cell? ⟨k2, p, none⟩ = some (.int .u32 x5) := by rw [← HX5.out]; exact q2.cell hp
  have ct : w9.cell? ⟨c4, 0, none⟩ = some (.slice (some ⟨k1, 0, none⟩) len len) := t4.cell (i := 0) (by omega)
  have yb := setBv_bd x5 v2 xb5.1 xb5.2
  obtain ⟨y0, y1⟩ := yb
  obtain ⟨x0, x1⟩ := xb5
  by_cases hv0 : 0 ≤ v2
  · by_cases hv1 : v2 ≤ 511
    · have d0 : decide (0 ≤ v2) = true := by simp; omega
      have d1 : decide (v2 ≤ 511) = true := by simp; omega
      have hB := rb x5 v2 hv0 hv1
      have hA := ra x5 v2
      have hO := ro x5 v2
      have CY := Lib.hid cy
      have CT := Lib.hid ct
      clear cy ct
      generalize setBv x5 v2 = y at *
      generalize x5 = x at *
      have HB := Lib.hid hB
      clear hB
      go_wp2_with (first | (go_at_call 25; refine (at_any _ _ _ _ p _ _ CT.out hp (by omega) CY.out).mono ?_; rintro e w' ⟨rfl, rfl⟩) | (go_at_call 26; refine (getB_any _ _ y0 y1).mono ?_; rintro e w' ⟨rfl, rfl⟩; have hB' := HB.out))
      go_quiet ((go_at_call 27; first | exact quietL (getA_any y _ y0 y1) | exact quietL (getA_any x _ x0 x1)))
      go_wp2_with fail
      go_quiet ((go_at_call 28; first | exact quietL2 (getOp_any y _ y0 y1) | exact quietL2 (getOp_any x _ x0 x1)))
      go_wp2_with fail
      go_ret
      exact ⟨rfl, below_drewN (below_drewN B _) _⟩
    · have d1 : decide (v2 ≤ 511) = false := by simp; omega
      have d0 : decide (0 ≤ v2) = true := by simp; omega
      go_wp2_with fail
      go_ret
      exact ⟨rfl, B⟩
  · have d0 : decide (0 ≤ v2) = false := by simp; omega
    go_wp2_with fail
    go_ret
    exact ⟨rfl, B⟩

theorem walk (a0 : Option Addr) (len0 cap0 : Nat) (z0 : List Int) (a1 : Int) (a2 : Int) (a3 : Int) (w : World) (r0 : IsRow (.int .u32) 0 w a0 len0 cap0 z0) (w0 : ∀ z ∈ z0, (Lit.int .u32 z).wf = true) (w1 : (Lit.int .i64 a1).wf = true) (w2 : (Lit.int .i64 a2).wf = true) (w3 : (Lit.int .i64 a3).wf = true) :
    Calls Try.prog 7 #[.slice a0 len0 cap0, .int .i64 a1, .int .i64 a2, .int .i64 a3] w fun e w' => e = .returned (.bool true) ∧ Below w.heap.size w w' := by
  have m0 := r0.2.1
  have m0' := r0.2.2.1
  unfold maxLen at m0'
  by_cases g1 : (65536 : Int) < (len0 : Int)
  · clear r0
    go_enter Try.func7, Try.ntmps7
    go_wp2
    all_goals (go_ret; exact ⟨rfl, Below.refl _ _⟩)
  by_cases g6 : a1 < 0
  · clear r0
    have g6' : decide (a1 < 0) = true := by simp; omega
    go_enter Try.func7, Try.ntmps7
    go_wp2
    all_goals (go_ret; exact ⟨rfl, Below.refl _ _⟩)
  by_cases g7 : (len0 : Int) ≤ a1
  · clear r0
    have g6' : decide (a1 < 0) = false := by simp; omega
    have g7' : decide ((len0 : Int) ≤ a1) = true := by simp; omega
    go_enter Try.func7, Try.ntmps7
    go_wp2
    all_goals (go_ret; exact ⟨rfl, Below.refl _ _⟩)
  obtain ⟨p, rfl⟩ := Int.eq_ofNat_of_zero_le (show 0 ≤ a1 by omega)
  exact main a0 len0 cap0 z0 p a2 a3 w r0 w0 (by omega) (by omega)
end Go.Proofs.Ytgnommaelahjlaa.fnSetBLastWriteWinsAndReadsBack
