/- The walk of FnSetAExact: the Go text returns true and writes nothing that was there. -/
import Derived.Test.YtgmihjpfnphoiaaSt46
import Derived.Test.YtgmihjpfnphoiaaCloneU32
import Derived.Test.YtgmihjpfnphoiaaCloneInt
import Derived.Test.YtgmihjpfnphoiaaEqU32
import Derived.Test.YtgmihjpfnphoiaaEqInt
namespace Go.Proofs.Ytgmihjpfnphoiaa.fnSetAExact
open Go.ChangeShapes Go.WideShapes Go.ChangeAt Go.RowKit
set_option linter.unusedVariables false

theorem main (a0 : Option Addr) (len cap0 : Nat) (z0 : List Int) (a1 : Option Addr) (cap1 : Nat) (z1 : List Int) (pc p : Nat) (v : Int) (w : World) (r0 : IsRow (.int .u32) 0 w a0 len cap0 z0) (w0 : ∀ z ∈ z0, (Lit.int .u32 z).wf = true) (r1 : IsRow (.int .i64) 0 w a1 len cap1 z1)
    (hl : len ≤ 65536) (hpc : pc ≤ len) (hp : p < len) (hv : -9223372036854775808 ≤ v ∧ v ≤ 9223372036854775807) :
    Calls Try.prog 9 #[.slice a0 len cap0, .slice a1 len cap1, .int .i64 pc, .int .i64 p, .int .i64 v] w fun e w' => e = .returned (.bool true) ∧ Below w.heap.size w w' := by
  have l0 := Lib.hid r0.1
  have l1 := Lib.hid r1.1
  go_enter Try.func9, Try.ntmps9
  go_wp2_with (first | (go_at_call 32; go_in) | (go_at_call 11; go_in))
  refine (cloneU32_any _ _ _ z0 _ r0 (by omega)).mono ?_
  rintro e w1 C
  obtain ⟨k1, rfl, lo1, hi1, q1, b1⟩ := C.pos (by omega)
  have r1' := row_below r1 b1
  go_wp2_with fail
  refine (cloneInt_any _ _ _ z1 _ r1' (by omega)).mono ?_
  rintro e w2 C
  obtain ⟨k2, rfl, lo2, hi2, q2, b2⟩ := C.pos (by omega)
  replace q1 := rowIs_below b2 hi1 q1
  go_wp2_with fail
  refine (cloneU32_any _ _ _ z0 _ (rowIs_row q1 l0.out (by omega)) (by omega)).mono ?_
  rintro e w3 C
  obtain ⟨k3, rfl, lo3, hi3, q3, b3⟩ := C.pos (by omega)
  replace q1 := rowIs_below b3 (by omega) q1
  replace q2 := rowIs_below b3 hi2 q2
  go_wp2_with fail
  refine (cloneInt_any _ _ _ z1 _ (rowIs_row q2 l1.out (by omega)) (by omega)).mono ?_
  rintro e w4 C
  obtain ⟨k4, rfl, lo4, hi4, q4, b4⟩ := C.pos (by omega)
  replace q1 := rowIs_below b4 (by omega) q1
  replace q2 := rowIs_below b4 (by omega) q2
  replace q3 := rowIs_below b4 (by omega) q3
  have s1 := b1.size
  have s2 := b2.size
  have s3 := b3.size
  have s4 := b4.size
  have B4 : Below w.heap.size w w4 := bel_trans (bel_trans (bel_trans b1 b2 (by omega)) b3 (by omega)) b4 (by omega)
  clear b1 b2 b3 b4 r0 r1 r1' C
  go_wp2_with fail
  refine (newStore_any _ _ _ _ _ _ _ _).mono ?_
  rintro e w5 ⟨rfl, h5⟩
  have qs := st3_alloc w4 (.slice (some ⟨k3, 0, none⟩) len len) (.slice (some ⟨k4, 0, none⟩) len len) (.int .i64 pc) 47
  replace q1 := q1.alloc (.cells #[.slice (some ⟨k3, 0, none⟩) len len, .slice (some ⟨k4, 0, none⟩) len len, .int .i64 pc] 47)
  replace q2 := q2.alloc (.cells #[.slice (some ⟨k3, 0, none⟩) len len, .slice (some ⟨k4, 0, none⟩) len len, .int .i64 pc] 47)
  replace q3 := q3.alloc (.cells #[.slice (some ⟨k3, 0, none⟩) len len, .slice (some ⟨k4, 0, none⟩) len len, .int .i64 pc] 47)
  replace q4 := q4.alloc (.cells #[.slice (some ⟨k3, 0, none⟩) len len, .slice (some ⟨k4, 0, none⟩) len len, .int .i64 pc] 47)
  have B5 := B4.alloc (by omega) (.cells #[.slice (some ⟨k3, 0, none⟩) len len, .slice (some ⟨k4, 0, none⟩) len len, .int .i64 pc] 47)
  rw [h5] at qs q1 q2 q3 q4 B5
  generalize w4.heap.size = c at *
  clear h5 B4
  go_wp2_with fail
  obtain ⟨x, hxe⟩ : ∃ x, z0.getD p 0 = x := ⟨_, rfl⟩
  have xb := getD_u32 w0 p
  rw [hxe] at xb
  obtain ⟨hx0, hx⟩ := xb
  have HX := Lib.hid hxe
  clear hxe w0
  have cx : w5.cell? ⟨k3, p, none⟩ = some (.int .u32 x) := by rw [← HX.out]; exact q3.cell hp
  have HC := Lib.hid cx
  clear cx
  refine (zzSetA_any c k3 len len p x v _ (qs.cell (i := 0) (by omega)) hp (by omega) HC.out (q3.frozen p) hx0 hx).mono ?_
  rintro e w6 ⟨rfl, h6⟩
  replace q1 := q1.setOther (a := ⟨k3, p, none⟩) (show k1 ≠ k3 by omega) (.int .u32 (setAv x v))
  replace q2 := q2.setOther (a := ⟨k3, p, none⟩) (show k2 ≠ k3 by omega) (.int .u32 (setAv x v))
  replace q4 := q4.setOther (a := ⟨k3, p, none⟩) (show k4 ≠ k3 by omega) (.int .u32 (setAv x v))
  replace qs := qs.setOther (a := ⟨k3, p, none⟩) (show c ≠ k3 by omega) (.int .u32 (setAv x v))
  replace q3 := q3.set p (.int .u32 (setAv x v))
  have B6 := B5.setCell (p := ⟨k3, p, none⟩) (show w.heap.size ≤ k3 by omega) (.int .u32 (setAv x v))
  rw [h6] at q1 q2 q3 q4 qs B6
  clear h6 B5
  go_wp2_with fail
  refine (getCodes_any c (.slice (some ⟨k3, 0, none⟩) len len) _ (qs.cell (i := 0) (by omega))).mono ?_
  rintro e w6' ⟨rfl, rfl⟩
  go_wp2_with fail
  refine (getLines_any c (.slice (some ⟨k4, 0, none⟩) len len) _ (qs.cell (i := 1) (by omega))).mono ?_
  rintro e w6' ⟨rfl, rfl⟩
  go_wp2_with fail
  refine (eqInt_same _ _ len len len z1 _ (rowIs_row q4 l1.out (by omega)) (rowIs_row q2 l1.out (by omega)) (by omega)).mono ?_
  rintro e w7 ⟨rfl, b7⟩
  have s7 := b7.size
  have c6 := qs.lt
  replace B6 := bel_trans B6 b7 (by omega)
  replace q1 := rowIs_below b7 q1.lt q1
  replace q3 := rowIs_below b7 q3.lt q3
  replace qs := rowIs_below b7 qs.lt qs
  clear b7 q2 q4
  go_wp2_with fail
  refine (getPc_any c (.int .i64 pc) _ (qs.cell (i := 2) (by omega))).mono ?_
  rintro e w7' ⟨rfl, rfl⟩
  go_wp2_with fail
  obtain ⟨y, hye⟩ : ∃ y, setAv x v = y := ⟨_, rfl⟩
  have yb := setAv_bd x v hx0 hx
  have HA := Lib.hid (setAv_A x v hx0 hx)
  have HO := Lib.hid (setAv_O x v hx0 hx)
  have HL := Lib.hid (setAv_L x v hx0 hx)
  rw [hye] at yb q3 HA HO HL
  obtain ⟨hy0, hy⟩ := yb
  clear hye HC
  go_loopw [13] (fun i wr => ∃ k : Nat, k ≤ len ∧ i = .int .i64 k ∧ Below w7.heap.size w7 wr) (fun i _ => len - (intOf i).toNat)
  case atStart => exact ⟨0, Nat.zero_le _, rfl, Below.refl _ _⟩
  case round =>
    obtain ⟨k, hk, rfl, hbel⟩ := hrel
    by_cases hlt : k < len
    · have hlt' : (k : Int) < (len : Int) := by omega
      by_cases hkp : k = p
      · subst hkp
        have hg : ((k : Int) != (k : Int)) = false := by simp
        go_wp2
        go_quiet (fail)
        go_wp2
        go_roundw
        case rel => exact ⟨k + 1, by omega, by go_num, below_drewN hbel _⟩
        case measure => simp [intOf]; omega
      · have hg : ((k : Int) != (p : Int)) = true := by simp; omega
        obtain ⟨u, hue⟩ : ∃ u, z0.getD k 0 = u := ⟨_, rfl⟩
        have e1 : wr.cell? ⟨k1, k, none⟩ = some (.int .u32 u) := by rw [← hue]; exact (hbel.cell (p := ⟨k1, k, none⟩) q1.lt).trans (q1.cell hlt)
        have e3 : wr.cell? ⟨k3, k, none⟩ = some (.int .u32 u) := by
          rw [← hue]
          have := (hbel.cell (p := ⟨k3, k, none⟩) q3.lt).trans (q3.cell hlt)
          rw [if_neg hkp] at this
          exact this
        clear hue hkp
        go_wp2
        go_quiet (fail)
        go_wp2
        go_roundw
        case rel => exact ⟨k + 1, by omega, by go_num, below_drewN hbel _⟩
        case measure => simp [intOf]; omega
    · have e1 : wr.cell? ⟨k1, p, none⟩ = some (.int .u32 x) := by rw [← HX.out]; exact (hbel.cell (p := ⟨k1, p, none⟩) q1.lt).trans (q1.cell hp)
      have e3 : wr.cell? ⟨k3, p, none⟩ = some (.int .u32 y) := by
        have := (hbel.cell (p := ⟨k3, p, none⟩) q3.lt).trans (q3.cell hp)
        rw [if_pos rfl] at this
        exact this
      have hA := HA.out
      have hO := HO.out
      have hL := HL.out
      go_wp2_with (go_at_call 27; refine (zzMod_any v 256 _ (by omega) hv).mono ?_; rintro e w8 ⟨rfl, rfl⟩)
      go_ret
      exact ⟨rfl, bel_trans B6 hbel (by omega)⟩
theorem walk (a0 : Option Addr) (len0 cap0 : Nat) (z0 : List Int) (a1 : Option Addr) (len1 cap1 : Nat) (z1 : List Int) (a2 : Int) (a3 : Int) (a4 : Int) (w : World) (r0 : IsRow (.int .u32) 0 w a0 len0 cap0 z0) (w0 : ∀ z ∈ z0, (Lit.int .u32 z).wf = true) (r1 : IsRow (.int .i64) 0 w a1 len1 cap1 z1) (w1 : ∀ z ∈ z1, (Lit.int .i64 z).wf = true) (w2 : (Lit.int .i64 a2).wf = true) (w3 : (Lit.int .i64 a3).wf = true) (w4 : (Lit.int .i64 a4).wf = true) :
    Calls Try.prog 9 #[.slice a0 len0 cap0, .slice a1 len1 cap1, .int .i64 a2, .int .i64 a3, .int .i64 a4] w fun e w' => e = .returned (.bool true) ∧ Below w.heap.size w w' := by
  have hv := i64_bd w4
  have m0 := r0.2.1
  have m0' := r0.2.2.1
  have m1 := r1.2.1
  have m1' := r1.2.2.1
  unfold maxLen at m0' m1'
  by_cases g1 : (65536 : Int) < (len0 : Int)
  · clear r0 r1
    go_enter Try.func9, Try.ntmps9
    go_wp2
    all_goals (go_ret; exact ⟨rfl, Below.refl _ _⟩)
  by_cases g2 : (65536 : Int) < (len1 : Int)
  · clear r0 r1
    go_enter Try.func9, Try.ntmps9
    go_wp2
    all_goals (go_ret; exact ⟨rfl, Below.refl _ _⟩)
  by_cases g3 : len0 = len1
  · subst g3
    by_cases g4 : a2 < 0
    · clear r0 r1
      go_enter Try.func9, Try.ntmps9
      go_wp2
      all_goals (go_ret; exact ⟨rfl, Below.refl _ _⟩)
    by_cases g5 : (len0 : Int) < a2
    · clear r0 r1
      have g5' : decide (a2 ≤ (len0 : Int)) = false := by simp; omega
      go_enter Try.func9, Try.ntmps9
      go_wp2
      all_goals (go_ret; exact ⟨rfl, Below.refl _ _⟩)
    by_cases g6 : a3 < 0
    · clear r0 r1
      have g6' : decide (a3 < 0) = true := by simp; omega
      have g5' : decide (a2 ≤ (len0 : Int)) = true := by simp; omega
      have g4' : decide (0 ≤ a2) = true := by simp; omega
      go_enter Try.func9, Try.ntmps9
      go_wp2
      all_goals (go_ret; exact ⟨rfl, Below.refl _ _⟩)
    by_cases g7 : (len0 : Int) ≤ a3
    · clear r0 r1
      have g6' : decide (a3 < 0) = false := by simp; omega
      have g7' : decide ((len0 : Int) ≤ a3) = true := by simp; omega
      have g5' : decide (a2 ≤ (len0 : Int)) = true := by simp; omega
      have g4' : decide (0 ≤ a2) = true := by simp; omega
      go_enter Try.func9, Try.ntmps9
      go_wp2
      all_goals (go_ret; exact ⟨rfl, Below.refl _ _⟩)
    obtain ⟨pc, rfl⟩ := Int.eq_ofNat_of_zero_le (show 0 ≤ a2 by omega)
    obtain ⟨p, rfl⟩ := Int.eq_ofNat_of_zero_le (show 0 ≤ a3 by omega)
    exact main a0 len0 cap0 z0 a1 cap1 z1 pc p a4 w r0 w0 r1 (by omega) (by omega) (by omega) hv
  · have g3' : ((len0 : Int) == (len1 : Int)) = false := by simp; omega
    clear r0 r1 g3
    go_enter Try.func9, Try.ntmps9
    go_wp2
    all_goals (go_ret; exact ⟨rfl, Below.refl _ _⟩)
end Go.Proofs.Ytgmihjpfnphoiaa.fnSetAExact
