/- The walk of FnSetOpCodeCommutesWithSetA: the Go text returns true and writes nothing that was there. -/
import Derived.Test.YtgmihjpfnphoiaaSt46
import Derived.Test.YtgmihjpfnphoiaaCloneU32
import Derived.Test.YtgmihjpfnphoiaaCloneInt
import Derived.Test.YtgmihjpfnphoiaaEqU32
import Derived.Test.YtgmihjpfnphoiaaEqInt
namespace Go.Proofs.Ytgmihjpfnphoiaa.fnSetOpCodeCommutesWithSetA
open Go.ChangeShapes Go.WideShapes Go.ChangeAt Go.RowKit
set_option linter.unusedVariables false


theorem main (a0 : Option Addr) (len cap0 : Nat) (z0 : List Int) (a1 : Option Addr) (cap1 : Nat) (z1 : List Int) (pc p : Nat) (op v : Int) (w : World) (r0 : IsRow (.int .u32) 0 w a0 len cap0 z0) (w0 : ∀ z ∈ z0, (Lit.int .u32 z).wf = true) (r1 : IsRow (.int .i64) 0 w a1 len cap1 z1)
    (hl : len ≤ 65536) (hpc : pc ≤ len) (hp : p < len) (hvop : -9223372036854775808 ≤ op ∧ op ≤ 9223372036854775807) (hvv : -9223372036854775808 ≤ v ∧ v ≤ 9223372036854775807) :
    Calls Try.prog 5 #[.slice a0 len cap0, .slice a1 len cap1, .int .i64 pc, .int .i64 p, .int .i64 op, .int .i64 v] w fun e w' => e = .returned (.bool true) ∧ Below w.heap.size w w' := by
  have l0 := Lib.hid r0.1
  have l1 := Lib.hid r1.1
  have u0 := u32s_of w0
  have B := Below.refl w.heap.size w
  go_enter Try.func5, Try.ntmps5
  go_wp2_with (first | (go_at_call 24; go_in) | (go_at_call 11; go_in))
  have s0 := Nat.le_refl w.heap.size
  go_wp2_with fail
  refine (cloneU32_any _ _ _ z0 _ r0 (by omega)).mono ?_
  rintro e w1 C
  obtain ⟨k1, rfl, lo1, hi1, q1, b1⟩ := C.pos (by omega)
  clear C
  have s1 := b1.size
  replace r0 := row_below r0 b1
  replace r1 := row_below r1 b1
  replace B := bel_trans B b1 B.size
  clear b1
  go_wp2_with fail
  refine (cloneInt_any _ _ _ z1 _ r1 (by omega)).mono ?_
  rintro e w2 C
  obtain ⟨k2, rfl, lo2, hi2, q2, b2⟩ := C.pos (by omega)
  clear C
  have s2 := b2.size
  replace q1 := rowIs_below b2 q1.lt q1
  replace r1 := row_below r1 b2
  replace B := bel_trans B b2 B.size
  clear b2
  go_wp2_with fail
  refine (cloneU32_any _ _ _ z0 _ (rowIs_row q1 l0.out (by omega)) (by omega)).mono ?_
  rintro e w3 C
  obtain ⟨k3, rfl, lo3, hi3, q3, b3⟩ := C.pos (by omega)
  clear C
  have s3 := b3.size
  replace q1 := rowIs_below b3 q1.lt q1
  replace q2 := rowIs_below b3 q2.lt q2
  replace B := bel_trans B b3 B.size
  clear b3
  go_wp2_with fail
  refine (cloneInt_any _ _ _ z1 _ (rowIs_row q2 l1.out (by omega)) (by omega)).mono ?_
  rintro e w4 C
  obtain ⟨k4, rfl, lo4, hi4, q4, b4⟩ := C.pos (by omega)
  clear C
  have s4 := b4.size
  replace q1 := rowIs_below b4 q1.lt q1
  replace q2 := rowIs_below b4 q2.lt q2
  replace q3 := rowIs_below b4 q3.lt q3
  replace B := bel_trans B b4 B.size
  clear b4
  go_wp2_with fail
  refine (newStore_any _ _ _ _ _ _ _ _).mono ?_
  rintro e w5 ⟨rfl, h5⟩
  have t5 := st3_alloc w4 (.slice (some ⟨k3, 0, none⟩) len len) (.slice (some ⟨k4, 0, none⟩) len len) (.int .i64 pc) 47
  have s5 : w4.heap.size ≤ (w4.alloc (.cells #[.slice (some ⟨k3, 0, none⟩) len len, .slice (some ⟨k4, 0, none⟩) len len, .int .i64 pc] 47)).heap.size := by simp
  replace q1 := q1.alloc (.cells #[.slice (some ⟨k3, 0, none⟩) len len, .slice (some ⟨k4, 0, none⟩) len len, .int .i64 pc] 47)
  replace q2 := q2.alloc (.cells #[.slice (some ⟨k3, 0, none⟩) len len, .slice (some ⟨k4, 0, none⟩) len len, .int .i64 pc] 47)
  replace q3 := q3.alloc (.cells #[.slice (some ⟨k3, 0, none⟩) len len, .slice (some ⟨k4, 0, none⟩) len len, .int .i64 pc] 47)
  replace q4 := q4.alloc (.cells #[.slice (some ⟨k3, 0, none⟩) len len, .slice (some ⟨k4, 0, none⟩) len len, .int .i64 pc] 47)
  replace B := B.alloc B.size (.cells #[.slice (some ⟨k3, 0, none⟩) len len, .slice (some ⟨k4, 0, none⟩) len len, .int .i64 pc] 47)
  rw [h5] at t5 B s5 q1 q2 q3 q4
  clear h5
  obtain ⟨c5, hc5⟩ : ∃ c, w4.heap.size = c := ⟨_, rfl⟩
  have lo5 : w4.heap.size ≤ c5 := by omega
  rw [hc5] at t5 ⊢
  have HC5 := Lib.hid hc5
  clear hc5
  have hi5 : c5 < w5.heap.size := t5.lt
  go_wp2_with fail
  refine (cloneU32_any _ _ _ z0 _ (rowIs_row q1 l0.out (by omega)) (by omega)).mono ?_
  rintro e w6 C
  obtain ⟨k6, rfl, lo6, hi6, q6, b6⟩ := C.pos (by omega)
  clear C
  have s6 := b6.size
  replace q1 := rowIs_below b6 q1.lt q1
  replace q2 := rowIs_below b6 q2.lt q2
  replace q3 := rowIs_below b6 q3.lt q3
  replace q4 := rowIs_below b6 q4.lt q4
  replace t5 := rowIs_below b6 t5.lt t5
  replace B := bel_trans B b6 B.size
  clear b6
  go_wp2_with fail
  refine (cloneInt_any _ _ _ z1 _ (rowIs_row q2 l1.out (by omega)) (by omega)).mono ?_
  rintro e w7 C
  obtain ⟨k7, rfl, lo7, hi7, q7, b7⟩ := C.pos (by omega)
  clear C
  have s7 := b7.size
  replace q1 := rowIs_below b7 q1.lt q1
  replace q2 := rowIs_below b7 q2.lt q2
  replace q3 := rowIs_below b7 q3.lt q3
  replace q4 := rowIs_below b7 q4.lt q4
  replace t5 := rowIs_below b7 t5.lt t5
  replace q6 := rowIs_below b7 q6.lt q6
  replace B := bel_trans B b7 B.size
  clear b7
  go_wp2_with fail
  refine (newStore_any _ _ _ _ _ _ _ _).mono ?_
  rintro e w8 ⟨rfl, h8⟩
  have t8 := st3_alloc w7 (.slice (some ⟨k6, 0, none⟩) len len) (.slice (some ⟨k7, 0, none⟩) len len) (.int .i64 pc) 47
  have s8 : w7.heap.size ≤ (w7.alloc (.cells #[.slice (some ⟨k6, 0, none⟩) len len, .slice (some ⟨k7, 0, none⟩) len len, .int .i64 pc] 47)).heap.size := by simp
  replace q1 := q1.alloc (.cells #[.slice (some ⟨k6, 0, none⟩) len len, .slice (some ⟨k7, 0, none⟩) len len, .int .i64 pc] 47)
  replace q2 := q2.alloc (.cells #[.slice (some ⟨k6, 0, none⟩) len len, .slice (some ⟨k7, 0, none⟩) len len, .int .i64 pc] 47)
  replace q3 := q3.alloc (.cells #[.slice (some ⟨k6, 0, none⟩) len len, .slice (some ⟨k7, 0, none⟩) len len, .int .i64 pc] 47)
  replace q4 := q4.alloc (.cells #[.slice (some ⟨k6, 0, none⟩) len len, .slice (some ⟨k7, 0, none⟩) len len, .int .i64 pc] 47)
  replace t5 := t5.alloc (.cells #[.slice (some ⟨k6, 0, none⟩) len len, .slice (some ⟨k7, 0, none⟩) len len, .int .i64 pc] 47)
  replace q6 := q6.alloc (.cells #[.slice (some ⟨k6, 0, none⟩) len len, .slice (some ⟨k7, 0, none⟩) len len, .int .i64 pc] 47)
  replace q7 := q7.alloc (.cells #[.slice (some ⟨k6, 0, none⟩) len len, .slice (some ⟨k7, 0, none⟩) len len, .int .i64 pc] 47)
  replace B := B.alloc B.size (.cells #[.slice (some ⟨k6, 0, none⟩) len len, .slice (some ⟨k7, 0, none⟩) len len, .int .i64 pc] 47)
  rw [h8] at t8 B s8 q1 q2 q3 q4 t5 q6 q7
  clear h8
  obtain ⟨c8, hc8⟩ : ∃ c, w7.heap.size = c := ⟨_, rfl⟩
  have lo8 : w7.heap.size ≤ c8 := by omega
  rw [hc8] at t8 ⊢
  have HC8 := Lib.hid hc8
  clear hc8
  have hi8 : c8 < w8.heap.size := t8.lt
  obtain ⟨x9, hx9⟩ : ∃ x, (z0).getD p 0 = x := ⟨_, rfl⟩
  have xb9 := u0 p
  rw [hx9] at xb9
  have cx9 := Lib.hid (show w8.cell? ⟨k3, p, none⟩ = some (.int .u32 x9) from by rw [← hx9]; exact q3.cell hp)
  have HX9 := Lib.hid hx9
  clear hx9
  have yb9 := setOpv_bd x9 op xb9.1 xb9.2
  go_wp2_with fail
  refine (zzSetOp_any c5 k3 len len p x9 op _ (t5.cell (i := 0) (by omega)) hp (by omega) cx9.out (q3.frozen p) xb9.1 xb9.2).mono ?_
  rintro e w9 ⟨rfl, h9⟩
  replace q1 := q1.setOther (a := ⟨k3, p, none⟩) (show k1 ≠ k3 by omega) (.int .u32 (setOpv x9 op))
  replace q2 := q2.setOther (a := ⟨k3, p, none⟩) (show k2 ≠ k3 by omega) (.int .u32 (setOpv x9 op))
  replace q3 := row_store q3 p (setOpv x9 op) l0.out hp
  replace q4 := q4.setOther (a := ⟨k3, p, none⟩) (show k4 ≠ k3 by omega) (.int .u32 (setOpv x9 op))
  replace t5 := t5.setOther (a := ⟨k3, p, none⟩) (show c5 ≠ k3 by omega) (.int .u32 (setOpv x9 op))
  replace q6 := q6.setOther (a := ⟨k3, p, none⟩) (show k6 ≠ k3 by omega) (.int .u32 (setOpv x9 op))
  replace q7 := q7.setOther (a := ⟨k3, p, none⟩) (show k7 ≠ k3 by omega) (.int .u32 (setOpv x9 op))
  replace t8 := t8.setOther (a := ⟨k3, p, none⟩) (show c8 ≠ k3 by omega) (.int .u32 (setOpv x9 op))
  replace B := B.setCell (p := ⟨k3, p, none⟩) (show w.heap.size ≤ k3 by omega) (.int .u32 (setOpv x9 op))
  have s9 : w8.heap.size ≤ (w8.setCell ⟨k3, p, none⟩ (.int .u32 (setOpv x9 op))).heap.size := by simp [World.setCell]
  rw [h9] at B s9 q1 q2 q3 q4 t5 q6 q7 t8
  clear h9 cx9
  have u9 := u0.set p yb9
  have g9 := Lib.hid (getD_set_self (zs := z0) (setOpv x9 op) l0.out hp)
  obtain ⟨x10, hx10⟩ : ∃ x, ((z0).set p (setOpv x9 op)).getD p 0 = x := ⟨_, rfl⟩
  have xb10 := u9 p
  rw [hx10] at xb10
  have cx10 := Lib.hid (show w9.cell? ⟨k3, p, none⟩ = some (.int .u32 x10) from by rw [← hx10]; exact q3.cell hp)
  have HX10 := Lib.hid hx10
  clear hx10
  have yb10 := setAv_bd x10 v xb10.1 xb10.2
  go_wp2_with fail
  refine (zzSetA_any c5 k3 len len p x10 v _ (t5.cell (i := 0) (by omega)) hp (by omega) cx10.out (q3.frozen p) xb10.1 xb10.2).mono ?_
  rintro e w10 ⟨rfl, h10⟩
  replace q1 := q1.setOther (a := ⟨k3, p, none⟩) (show k1 ≠ k3 by omega) (.int .u32 (setAv x10 v))
  replace q2 := q2.setOther (a := ⟨k3, p, none⟩) (show k2 ≠ k3 by omega) (.int .u32 (setAv x10 v))
  replace q3 := row_store q3 p (setAv x10 v) (by rw [List.length_set]; exact l0.out) hp
  replace q4 := q4.setOther (a := ⟨k3, p, none⟩) (show k4 ≠ k3 by omega) (.int .u32 (setAv x10 v))
  replace t5 := t5.setOther (a := ⟨k3, p, none⟩) (show c5 ≠ k3 by omega) (.int .u32 (setAv x10 v))
  replace q6 := q6.setOther (a := ⟨k3, p, none⟩) (show k6 ≠ k3 by omega) (.int .u32 (setAv x10 v))
  replace q7 := q7.setOther (a := ⟨k3, p, none⟩) (show k7 ≠ k3 by omega) (.int .u32 (setAv x10 v))
  replace t8 := t8.setOther (a := ⟨k3, p, none⟩) (show c8 ≠ k3 by omega) (.int .u32 (setAv x10 v))
  replace B := B.setCell (p := ⟨k3, p, none⟩) (show w.heap.size ≤ k3 by omega) (.int .u32 (setAv x10 v))
  have s10 : w9.heap.size ≤ (w9.setCell ⟨k3, p, none⟩ (.int .u32 (setAv x10 v))).heap.size := by simp [World.setCell]
  rw [h10] at B s10 q1 q2 q3 q4 t5 q6 q7 t8
  clear h10 cx10
  have u10 := u9.set p yb10
  have g10 := Lib.hid (getD_set_self (zs := (z0).set p (setOpv x9 op)) (setAv x10 v) (by rw [List.length_set]; exact l0.out) hp)
  obtain ⟨x11, hx11⟩ : ∃ x, (z0).getD p 0 = x := ⟨_, rfl⟩
  have xb11 := u0 p
  rw [hx11] at xb11
  have cx11 := Lib.hid (show w10.cell? ⟨k6, p, none⟩ = some (.int .u32 x11) from by rw [← hx11]; exact q6.cell hp)
  have HX11 := Lib.hid hx11
  clear hx11
  have yb11 := setAv_bd x11 v xb11.1 xb11.2
  go_wp2_with fail
  refine (zzSetA_any c8 k6 len len p x11 v _ (t8.cell (i := 0) (by omega)) hp (by omega) cx11.out (q6.frozen p) xb11.1 xb11.2).mono ?_
  rintro e w11 ⟨rfl, h11⟩
  replace q1 := q1.setOther (a := ⟨k6, p, none⟩) (show k1 ≠ k6 by omega) (.int .u32 (setAv x11 v))
  replace q2 := q2.setOther (a := ⟨k6, p, none⟩) (show k2 ≠ k6 by omega) (.int .u32 (setAv x11 v))
  replace q3 := q3.setOther (a := ⟨k6, p, none⟩) (show k3 ≠ k6 by omega) (.int .u32 (setAv x11 v))
  replace q4 := q4.setOther (a := ⟨k6, p, none⟩) (show k4 ≠ k6 by omega) (.int .u32 (setAv x11 v))
  replace t5 := t5.setOther (a := ⟨k6, p, none⟩) (show c5 ≠ k6 by omega) (.int .u32 (setAv x11 v))
  replace q6 := row_store q6 p (setAv x11 v) l0.out hp
  replace q7 := q7.setOther (a := ⟨k6, p, none⟩) (show k7 ≠ k6 by omega) (.int .u32 (setAv x11 v))
  replace t8 := t8.setOther (a := ⟨k6, p, none⟩) (show c8 ≠ k6 by omega) (.int .u32 (setAv x11 v))
  replace B := B.setCell (p := ⟨k6, p, none⟩) (show w.heap.size ≤ k6 by omega) (.int .u32 (setAv x11 v))
  have s11 : w10.heap.size ≤ (w10.setCell ⟨k6, p, none⟩ (.int .u32 (setAv x11 v))).heap.size := by simp [World.setCell]
  rw [h11] at B s11 q1 q2 q3 q4 t5 q6 q7 t8
  clear h11 cx11
  have u11 := u0.set p yb11
  have g11 := Lib.hid (getD_set_self (zs := z0) (setAv x11 v) l0.out hp)
  obtain ⟨x12, hx12⟩ : ∃ x, ((z0).set p (setAv x11 v)).getD p 0 = x := ⟨_, rfl⟩
  have xb12 := u11 p
  rw [hx12] at xb12
  have cx12 := Lib.hid (show w11.cell? ⟨k6, p, none⟩ = some (.int .u32 x12) from by rw [← hx12]; exact q6.cell hp)
  have HX12 := Lib.hid hx12
  clear hx12
  have yb12 := setOpv_bd x12 op xb12.1 xb12.2
  go_wp2_with fail
  refine (zzSetOp_any c8 k6 len len p x12 op _ (t8.cell (i := 0) (by omega)) hp (by omega) cx12.out (q6.frozen p) xb12.1 xb12.2).mono ?_
  rintro e w12 ⟨rfl, h12⟩
  replace q1 := q1.setOther (a := ⟨k6, p, none⟩) (show k1 ≠ k6 by omega) (.int .u32 (setOpv x12 op))
  replace q2 := q2.setOther (a := ⟨k6, p, none⟩) (show k2 ≠ k6 by omega) (.int .u32 (setOpv x12 op))
  replace q3 := q3.setOther (a := ⟨k6, p, none⟩) (show k3 ≠ k6 by omega) (.int .u32 (setOpv x12 op))
  replace q4 := q4.setOther (a := ⟨k6, p, none⟩) (show k4 ≠ k6 by omega) (.int .u32 (setOpv x12 op))
  replace t5 := t5.setOther (a := ⟨k6, p, none⟩) (show c5 ≠ k6 by omega) (.int .u32 (setOpv x12 op))
  replace q6 := row_store q6 p (setOpv x12 op) (by rw [List.length_set]; exact l0.out) hp
  replace q7 := q7.setOther (a := ⟨k6, p, none⟩) (show k7 ≠ k6 by omega) (.int .u32 (setOpv x12 op))
  replace t8 := t8.setOther (a := ⟨k6, p, none⟩) (show c8 ≠ k6 by omega) (.int .u32 (setOpv x12 op))
  replace B := B.setCell (p := ⟨k6, p, none⟩) (show w.heap.size ≤ k6 by omega) (.int .u32 (setOpv x12 op))
  have s12 : w11.heap.size ≤ (w11.setCell ⟨k6, p, none⟩ (.int .u32 (setOpv x12 op))).heap.size := by simp [World.setCell]
  rw [h12] at B s12 q1 q2 q3 q4 t5 q6 q7 t8
  clear h12 cx12
  have u12 := u11.set p yb12
  have g12 := Lib.hid (getD_set_self (zs := (z0).set p (setAv x11 v)) (setOpv x12 op) (by rw [List.length_set]; exact l0.out) hp)
  have ee : ((z0).set p (setAv x11 v)).set p (setOpv x12 op) = ((z0).set p (setOpv x9 op)).set p (setAv x10 v) := by
    have e1 : x11 = x9 := by rw [← HX11.out, ← HX9.out]
    have e2 : x10 = setOpv x9 op := by rw [← HX10.out]; exact g9.out
    have e4 : x12 = setAv x11 v := by rw [← HX12.out]; exact g11.out
    rw [List.set_set, List.set_set, e2, e4, e1, setOp_setA _ _ _ xb9.1 xb9.2]
  have EE := Lib.hid ee
  clear ee
  go_wp2_with fail
  refine (getCodes_any c5 (.slice (some ⟨k3, 0, none⟩) len len) _ (t5.cell (i := 0) (by omega))).mono ?_
  rintro e w' ⟨rfl, rfl⟩
  go_wp2_with fail
  refine (getCodes_any c8 (.slice (some ⟨k6, 0, none⟩) len len) _ (t8.cell (i := 0) (by omega))).mono ?_
  rintro e w' ⟨rfl, rfl⟩
  go_wp2_with fail
  refine (eqU32_same _ _ len len len (((z0).set p (setOpv x9 op)).set p (setAv x10 v)) _ (rowIs_row q3 (by rw [List.length_set]; exact (by rw [List.length_set]; exact l0.out)) (by omega)) (rowIs_row (by rw [← EE.out]; exact q6) (by rw [List.length_set]; exact (by rw [List.length_set]; exact l0.out)) (by omega)) (by omega)).mono ?_
  rintro e w13 ⟨rfl, b13⟩
  replace q1 := rowIs_below b13 q1.lt q1
  replace q2 := rowIs_below b13 q2.lt q2
  replace q3 := rowIs_below b13 q3.lt q3
  replace q4 := rowIs_below b13 q4.lt q4
  replace t5 := rowIs_below b13 t5.lt t5
  replace q6 := rowIs_below b13 q6.lt q6
  replace q7 := rowIs_below b13 q7.lt q7
  replace t8 := rowIs_below b13 t8.lt t8
  replace B := bel_trans B b13 B.size
  clear b13
  go_wp2_with fail
  refine (getLines_any c5 (.slice (some ⟨k4, 0, none⟩) len len) _ (t5.cell (i := 1) (by omega))).mono ?_
  rintro e w' ⟨rfl, rfl⟩
  go_wp2_with fail
  refine (getLines_any c8 (.slice (some ⟨k7, 0, none⟩) len len) _ (t8.cell (i := 1) (by omega))).mono ?_
  rintro e w' ⟨rfl, rfl⟩
  go_wp2_with fail
  refine (eqInt_same _ _ len len len z1 _ (rowIs_row q4 l1.out (by omega)) (rowIs_row q7 l1.out (by omega)) (by omega)).mono ?_
  rintro e w14 ⟨rfl, b14⟩
  replace q1 := rowIs_below b14 q1.lt q1
  replace q2 := rowIs_below b14 q2.lt q2
  replace q3 := rowIs_below b14 q3.lt q3
  replace q4 := rowIs_below b14 q4.lt q4
  replace t5 := rowIs_below b14 t5.lt t5
  replace q6 := rowIs_below b14 q6.lt q6
  replace q7 := rowIs_below b14 q7.lt q7
  replace t8 := rowIs_below b14 t8.lt t8
  replace B := bel_trans B b14 B.size
  clear b14
  go_wp2_with fail
  go_ret
  exact ⟨rfl, B⟩

theorem walk (a0 : Option Addr) (len0 cap0 : Nat) (z0 : List Int) (a1 : Option Addr) (len1 cap1 : Nat) (z1 : List Int) (a2 : Int) (a3 : Int) (a4 : Int) (a5 : Int) (w : World) (r0 : IsRow (.int .u32) 0 w a0 len0 cap0 z0) (w0 : ∀ z ∈ z0, (Lit.int .u32 z).wf = true) (r1 : IsRow (.int .i64) 0 w a1 len1 cap1 z1) (w1 : ∀ z ∈ z1, (Lit.int .i64 z).wf = true) (w2 : (Lit.int .i64 a2).wf = true) (w3 : (Lit.int .i64 a3).wf = true) (w4 : (Lit.int .i64 a4).wf = true) (w5 : (Lit.int .i64 a5).wf = true) :
    Calls Try.prog 5 #[.slice a0 len0 cap0, .slice a1 len1 cap1, .int .i64 a2, .int .i64 a3, .int .i64 a4, .int .i64 a5] w fun e w' => e = .returned (.bool true) ∧ Below w.heap.size w w' := by
  have hv4 := i64_bd w4
  have hv5 := i64_bd w5
  have m0 := r0.2.1
  have m0' := r0.2.2.1
  have m1 := r1.2.1
  have m1' := r1.2.2.1
  unfold maxLen at m0' m1'
  by_cases g1 : (65536 : Int) < (len0 : Int)
  · clear r0 r1
    go_enter Try.func5, Try.ntmps5
    go_wp2
    all_goals (go_ret; exact ⟨rfl, Below.refl _ _⟩)
  by_cases g2 : (65536 : Int) < (len1 : Int)
  · clear r0 r1
    go_enter Try.func5, Try.ntmps5
    go_wp2
    all_goals (go_ret; exact ⟨rfl, Below.refl _ _⟩)
  by_cases g3 : len0 = len1
  · subst g3
    by_cases g4 : a2 < 0
    · clear r0 r1
      go_enter Try.func5, Try.ntmps5
      go_wp2
      all_goals (go_ret; exact ⟨rfl, Below.refl _ _⟩)
    by_cases g5 : (len0 : Int) < a2
    · clear r0 r1
      have g5' : decide (a2 ≤ (len0 : Int)) = false := by simp; omega
      go_enter Try.func5, Try.ntmps5
      go_wp2
      all_goals (go_ret; exact ⟨rfl, Below.refl _ _⟩)
    by_cases g6 : a3 < 0
    · clear r0 r1
      have g6' : decide (a3 < 0) = true := by simp; omega
      have g5' : decide (a2 ≤ (len0 : Int)) = true := by simp; omega
      have g4' : decide (0 ≤ a2) = true := by simp; omega
      go_enter Try.func5, Try.ntmps5
      go_wp2
      all_goals (go_ret; exact ⟨rfl, Below.refl _ _⟩)
    by_cases g7 : (len0 : Int) ≤ a3
    · clear r0 r1
      have g6' : decide (a3 < 0) = false := by simp; omega
      have g7' : decide ((len0 : Int) ≤ a3) = true := by simp; omega
      have g5' : decide (a2 ≤ (len0 : Int)) = true := by simp; omega
      have g4' : decide (0 ≤ a2) = true := by simp; omega
      go_enter Try.func5, Try.ntmps5
      go_wp2
      all_goals (go_ret; exact ⟨rfl, Below.refl _ _⟩)
    obtain ⟨pc, rfl⟩ := Int.eq_ofNat_of_zero_le (show 0 ≤ a2 by omega)
    obtain ⟨p, rfl⟩ := Int.eq_ofNat_of_zero_le (show 0 ≤ a3 by omega)
    exact main a0 len0 cap0 z0 a1 cap1 z1 pc p a4 a5 w r0 w0 r1 (by omega) (by omega) (by omega) hv4 hv5
  · have g3' : ((len0 : Int) == (len1 : Int)) = false := by simp; omega
    clear r0 r1 g3
    go_enter Try.func5, Try.ntmps5
    go_wp2
    all_goals (go_ret; exact ⟨rfl, Below.refl _ _⟩)
end Go.Proofs.Ytgmihjpfnphoiaa.fnSetOpCodeCommutesWithSetA
