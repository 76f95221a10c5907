/- The walk of FnSetOpCodeExact: the Go text returns true and writes nothing that was there. -/
import Derived.Test.YtgmihjpfnphoiaaSt46
import Derived.Test.YtgmihjpfnphoiaaCloneU32
import Derived.Test.YtgmihjpfnphoiaaCloneInt
import Derived.Test.YtgmihjpfnphoiaaEqU32
import Derived.Test.YtgmihjpfnphoiaaEqInt
namespace Go.Proofs.Ytgmihjpfnphoiaa.fnSetOpCodeExact
open Go.ChangeShapes Go.WideShapes Go.ChangeAt Go.RowKit
set_option linter.unusedVariables false


theorem main (a0 : Option Addr) (len cap0 : Nat) (z0 : List Int) (a1 : Option Addr) (cap1 : Nat) (z1 : List Int) (pc p : Nat) (v : Int) (w : World) (r0 : IsRow (.int .u32) 0 w a0 len cap0 z0) (w0 : ∀ z ∈ z0, (Lit.int .u32 z).wf = true) (r1 : IsRow (.int .i64) 0 w a1 len cap1 z1)
    (hl : len ≤ 65536) (hpc : pc ≤ len) (hp : p < len) (hvv : -9223372036854775808 ≤ v ∧ v ≤ 9223372036854775807) :
    Calls Try.prog 7 #[.slice a0 len cap0, .slice a1 len cap1, .int .i64 pc, .int .i64 p, .int .i64 v] w fun e w' => e = .returned (.bool true) ∧ Below w.heap.size w w' := by
  have l0 := Lib.hid r0.1
  have l1 := Lib.hid r1.1
  have u0 := u32s_of w0
  have B := Below.refl w.heap.size w
  go_enter Try.func7, Try.ntmps7
  go_wp2_with (first | (go_at_call 28; go_in) | (go_at_call 11; go_in))
  have s0 := Nat.le_refl w.heap.size
  go_wp2_with fail
  refine (cloneU32_any _ _ _ z0 _ r0 (by omega)).mono ?_
  rintro e w1 C
  obtain ⟨k1, rfl, lo1, hi1, q1, b1⟩ := C.pos (by omega)
  clear C
  have s1 := b1.size
  replace r0 := row_below r0 b1
  replace r1 := row_below r1 b1
  replace B := bel_trans B b1 B.size
  clear b1
  go_wp2_with fail
  refine (cloneInt_any _ _ _ z1 _ r1 (by omega)).mono ?_
  rintro e w2 C
  obtain ⟨k2, rfl, lo2, hi2, q2, b2⟩ := C.pos (by omega)
  clear C
  have s2 := b2.size
  replace q1 := rowIs_below b2 q1.lt q1
  replace r1 := row_below r1 b2
  replace B := bel_trans B b2 B.size
  clear b2
  go_wp2_with fail
  refine (cloneU32_any _ _ _ z0 _ (rowIs_row q1 l0.out (by omega)) (by omega)).mono ?_
  rintro e w3 C
  obtain ⟨k3, rfl, lo3, hi3, q3, b3⟩ := C.pos (by omega)
  clear C
  have s3 := b3.size
  replace q1 := rowIs_below b3 q1.lt q1
  replace q2 := rowIs_below b3 q2.lt q2
  replace B := bel_trans B b3 B.size
  clear b3
  go_wp2_with fail
  refine (cloneInt_any _ _ _ z1 _ (rowIs_row q2 l1.out (by omega)) (by omega)).mono ?_
  rintro e w4 C
  obtain ⟨k4, rfl, lo4, hi4, q4, b4⟩ := C.pos (by omega)
  clear C
  have s4 := b4.size
  replace q1 := rowIs_below b4 q1.lt q1
  replace q2 := rowIs_below b4 q2.lt q2
  replace q3 := rowIs_below b4 q3.lt q3
  replace B := bel_trans B b4 B.size
  clear b4
  go_wp2_with fail
  refine (newStore_any _ _ _ _ _ _ _ _).mono ?_
  rintro e w5 ⟨rfl, h5⟩
  have t5 := st3_alloc w4 (.slice (some ⟨k3, 0, none⟩) len len) (.slice (some ⟨k4, 0, none⟩) len len) (.int .i64 pc) 47
  have s5 : w4.heap.size ≤ (w4.alloc (.cells #[.slice (some ⟨k3, 0, none⟩) len len, .slice (some ⟨k4, 0, none⟩) len len, .int .i64 pc] 47)).heap.size := by simp
  replace q1 := q1.alloc (.cells #[.slice (some ⟨k3, 0, none⟩) len len, .slice (some ⟨k4, 0, none⟩) len len, .int .i64 pc] 47)
  replace q2 := q2.alloc (.cells #[.slice (some ⟨k3, 0, none⟩) len len, .slice (some ⟨k4, 0, none⟩) len len, .int .i64 pc] 47)
  replace q3 := q3.alloc (.cells #[.slice (some ⟨k3, 0, none⟩) len len, .slice (some ⟨k4, 0, none⟩) len len, .int .i64 pc] 47)
  replace q4 := q4.alloc (.cells #[.slice (some ⟨k3, 0, none⟩) len len, .slice (some ⟨k4, 0, none⟩) len len, .int .i64 pc] 47)
  replace B := B.alloc B.size (.cells #[.slice (some ⟨k3, 0, none⟩) len len, .slice (some ⟨k4, 0, none⟩) len len, .int .i64 pc] 47)
  rw [h5] at t5 B s5 q1 q2 q3 q4
  clear h5
  obtain ⟨c5, hc5⟩ : ∃ c, w4.heap.size = c := ⟨_, rfl⟩
  have lo5 : w4.heap.size ≤ c5 := by omega
  rw [hc5] at t5 ⊢
  have HC5 := Lib.hid hc5
  clear hc5
  have hi5 : c5 < w5.heap.size := t5.lt
  obtain ⟨x6, hx6⟩ : ∃ x, (z0).getD p 0 = x := ⟨_, rfl⟩
  have xb6 := u0 p
  rw [hx6] at xb6
  have cx6 := Lib.hid (show w5.cell? ⟨k3, p, none⟩ = some (.int .u32 x6) from by rw [← hx6]; exact q3.cell hp)
  have HX6 := Lib.hid hx6
  clear hx6
  have yb6 := setOpv_bd x6 v xb6.1 xb6.2
  go_wp2_with fail
  refine (zzSetOp_any c5 k3 len len p x6 v _ (t5.cell (i := 0) (by omega)) hp (by omega) cx6.out (q3.frozen p) xb6.1 xb6.2).mono ?_
  rintro e w6 ⟨rfl, h6⟩
  replace q1 := q1.setOther (a := ⟨k3, p, none⟩) (show k1 ≠ k3 by omega) (.int .u32 (setOpv x6 v))
  replace q2 := q2.setOther (a := ⟨k3, p, none⟩) (show k2 ≠ k3 by omega) (.int .u32 (setOpv x6 v))
  replace q3 := row_store q3 p (setOpv x6 v) l0.out hp
  replace q4 := q4.setOther (a := ⟨k3, p, none⟩) (show k4 ≠ k3 by omega) (.int .u32 (setOpv x6 v))
  replace t5 := t5.setOther (a := ⟨k3, p, none⟩) (show c5 ≠ k3 by omega) (.int .u32 (setOpv x6 v))
  replace B := B.setCell (p := ⟨k3, p, none⟩) (show w.heap.size ≤ k3 by omega) (.int .u32 (setOpv x6 v))
  have s6 : w5.heap.size ≤ (w5.setCell ⟨k3, p, none⟩ (.int .u32 (setOpv x6 v))).heap.size := by simp [World.setCell]
  rw [h6] at B s6 q1 q2 q3 q4 t5
  clear h6 cx6
  have u6 := u0.set p yb6
  have g6 := Lib.hid (getD_set_self (zs := z0) (setOpv x6 v) l0.out hp)
  go_wp2_with fail
  refine (getCodes_any c5 (.slice (some ⟨k3, 0, none⟩) len len) _ (t5.cell (i := 0) (by omega))).mono ?_
  rintro e w' ⟨rfl, rfl⟩
  go_wp2_with fail
  refine (getLines_any c5 (.slice (some ⟨k4, 0, none⟩) len len) _ (t5.cell (i := 1) (by omega))).mono ?_
  rintro e w' ⟨rfl, rfl⟩
  go_wp2_with fail
  refine (eqInt_same _ _ len len len z1 _ (rowIs_row q4 l1.out (by omega)) (rowIs_row q2 l1.out (by omega)) (by omega)).mono ?_
  rintro e w7 ⟨rfl, b7⟩
  replace q1 := rowIs_below b7 q1.lt q1
  replace q2 := rowIs_below b7 q2.lt q2
  replace q3 := rowIs_below b7 q3.lt q3
  replace q4 := rowIs_below b7 q4.lt q4
  replace t5 := rowIs_below b7 t5.lt t5
  replace B := bel_trans B b7 B.size
  clear b7
  go_wp2_with fail
  refine (getPc_any c5 (.int .i64 pc) _ (t5.cell (i := 2) (by omega))).mono ?_
  rintro e w' ⟨rfl, rfl⟩
  go_wp2_with fail
  have yb := yb6
  have q3 := q3
  have HO := Lib.hid (setOpv_O x6 v xb6.1 xb6.2)
  have HL := Lib.hid (setOpv_L x6 v xb6.1 xb6.2)
  have gs := g6.out
  have go := fun i (h : p ≠ i) => getD_set_other (zs := z0) (setOpv x6 v) h
  clear q3 g6 u6 yb6
  generalize setOpv x6 v = y at *
  obtain ⟨hy0, hy⟩ := yb
  obtain ⟨hx0, hx⟩ := xb6
  have GS := Lib.hid gs
  have GO := Lib.hid go
  clear gs go
  go_loopw [13] (fun i wr => ∃ k : Nat, k ≤ len ∧ i = .int .i64 k ∧ Below w7.heap.size w7 wr) (fun i _ => len - (intOf i).toNat)
  case atStart => exact ⟨0, Nat.zero_le _, rfl, Below.refl _ _⟩
  case round =>
    obtain ⟨k, hk, rfl, hbel⟩ := hrel
    by_cases hlt : k < len
    · have hlt' : (k : Int) < (len : Int) := by omega
      by_cases hkp : k = p
      · subst hkp
        have hg : ((k : Int) != (k : Int)) = false := by simp
        go_wp2
        go_quiet (fail)
        go_wp2
        go_roundw
        case rel => exact ⟨k + 1, by omega, by go_num, below_drewN hbel _⟩
        case measure => simp [intOf]; omega
      · have hg : ((k : Int) != (p : Int)) = true := by simp; omega
        obtain ⟨t, hue⟩ : ∃ t, z0.getD k 0 = t := ⟨_, rfl⟩
        have e1 : wr.cell? ⟨k1, k, none⟩ = some (.int .u32 t) := by rw [← hue]; exact (hbel.cell (p := ⟨k1, k, none⟩) q1.lt).trans (q1.cell hlt)
        have e3 : wr.cell? ⟨k3, k, none⟩ = some (.int .u32 t) := by rw [← hue, ← GO.out k (fun e => hkp e.symm)]; exact (hbel.cell (p := ⟨k3, k, none⟩) q3.lt).trans (q3.cell hlt)
        clear hue hkp
        go_wp2
        go_quiet (fail)
        go_wp2
        go_roundw
        case rel => exact ⟨k + 1, by omega, by go_num, below_drewN hbel _⟩
        case measure => simp [intOf]; omega
    · have e1 : wr.cell? ⟨k1, p, none⟩ = some (.int .u32 x6) := by rw [← HX6.out]; exact (hbel.cell (p := ⟨k1, p, none⟩) q1.lt).trans (q1.cell hp)
      have e3 : wr.cell? ⟨k3, p, none⟩ = some (.int .u32 y) := by rw [← GS.out]; exact (hbel.cell (p := ⟨k3, p, none⟩) q3.lt).trans (q3.cell hp)
      have hO := HO.out
      have hL := HL.out
      go_wp2_with (go_at_call 27; refine (zzMod_any v 64 _ (by omega) hvv).mono ?_; rintro e w8 ⟨rfl, rfl⟩)
      go_ret
      exact ⟨rfl, bel_trans B hbel B.size⟩

theorem walk (a0 : Option Addr) (len0 cap0 : Nat) (z0 : List Int) (a1 : Option Addr) (len1 cap1 : Nat) (z1 : List Int) (a2 : Int) (a3 : Int) (a4 : Int) (w : World) (r0 : IsRow (.int .u32) 0 w a0 len0 cap0 z0) (w0 : ∀ z ∈ z0, (Lit.int .u32 z).wf = true) (r1 : IsRow (.int .i64) 0 w a1 len1 cap1 z1) (w1 : ∀ z ∈ z1, (Lit.int .i64 z).wf = true) (w2 : (Lit.int .i64 a2).wf = true) (w3 : (Lit.int .i64 a3).wf = true) (w4 : (Lit.int .i64 a4).wf = true) :
    Calls Try.prog 7 #[.slice a0 len0 cap0, .slice a1 len1 cap1, .int .i64 a2, .int .i64 a3, .int .i64 a4] w fun e w' => e = .returned (.bool true) ∧ Below w.heap.size w w' := by
  have hv4 := i64_bd w4
  have m0 := r0.2.1
  have m0' := r0.2.2.1
  have m1 := r1.2.1
  have m1' := r1.2.2.1
  unfold maxLen at m0' m1'
  by_cases g1 : (65536 : Int) < (len0 : Int)
  · clear r0 r1
    go_enter Try.func7, Try.ntmps7
    go_wp2
    all_goals (go_ret; exact ⟨rfl, Below.refl _ _⟩)
  by_cases g2 : (65536 : Int) < (len1 : Int)
  · clear r0 r1
    go_enter Try.func7, Try.ntmps7
    go_wp2
    all_goals (go_ret; exact ⟨rfl, Below.refl _ _⟩)
  by_cases g3 : len0 = len1
  · subst g3
    by_cases g4 : a2 < 0
    · clear r0 r1
      go_enter Try.func7, Try.ntmps7
      go_wp2
      all_goals (go_ret; exact ⟨rfl, Below.refl _ _⟩)
    by_cases g5 : (len0 : Int) < a2
    · clear r0 r1
      have g5' : decide (a2 ≤ (len0 : Int)) = false := by simp; omega
      go_enter Try.func7, Try.ntmps7
      go_wp2
      all_goals (go_ret; exact ⟨rfl, Below.refl _ _⟩)
    by_cases g6 : a3 < 0
    · clear r0 r1
      have g6' : decide (a3 < 0) = true := by simp; omega
      have g5' : decide (a2 ≤ (len0 : Int)) = true := by simp; omega
      have g4' : decide (0 ≤ a2) = true := by simp; omega
      go_enter Try.func7, Try.ntmps7
      go_wp2
      all_goals (go_ret; exact ⟨rfl, Below.refl _ _⟩)
    by_cases g7 : (len0 : Int) ≤ a3
    · clear r0 r1
      have g6' : decide (a3 < 0) = false := by simp; omega
      have g7' : decide ((len0 : Int) ≤ a3) = true := by simp; omega
      have g5' : decide (a2 ≤ (len0 : Int)) = true := by simp; omega
      have g4' : decide (0 ≤ a2) = true := by simp; omega
      go_enter Try.func7, Try.ntmps7
      go_wp2
      all_goals (go_ret; exact ⟨rfl, Below.refl _ _⟩)
    obtain ⟨pc, rfl⟩ := Int.eq_ofNat_of_zero_le (show 0 ≤ a2 by omega)
    obtain ⟨p, rfl⟩ := Int.eq_ofNat_of_zero_le (show 0 ≤ a3 by omega)
    exact main a0 len0 cap0 z0 a1 cap1 z1 pc p a4 w r0 w0 r1 (by omega) (by omega) (by omega) hv4
  · have g3' : ((len0 : Int) == (len1 : Int)) = false := by simp; omega
    clear r0 r1 g3
    go_enter Try.func7, Try.ntmps7
    go_wp2
    all_goals (go_ret; exact ⟨rfl, Below.refl _ _⟩)
end Go.Proofs.Ytgmihjpfnphoiaa.fnSetOpCodeExact
