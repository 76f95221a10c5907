/- The walk of FnAddLoadNilExact: the Go text returns true and writes nothing that was there. -/
import Derived.Test.YtgmihjpfnphoiaaAnF
import Derived.Test.YtgmihjpfnphoiaaCloneU32
import Derived.Test.YtgmihjpfnphoiaaCloneInt
import Derived.Test.YtgmihjpfnphoiaaEqU32
import Derived.Test.YtgmihjpfnphoiaaEqInt
namespace Go.Proofs.Ytgmihjpfnphoiaa.fnAddLoadNilExact
open Go.ChangeShapes Go.WideShapes Go.ChangeAt Go.RowKit
set_option linter.unusedVariables false

set_option maxHeartbeats 600000 in
theorem main_end (a0 : Option Addr) (n cap0 : Nat) (z0 : List Int) (a1 : Option Addr) (cap1 : Nat) (z1 : List Int) (pc : Nat) (a b line : Int) (w : World) (r0 : IsRow (.int .u32) 0 w a0 n cap0 z0) (r1 : IsRow (.int .i64) 0 w a1 n cap1 z1)
    (hl : n ≤ 65536) (hp : pc = n) (ha : -9223372036854775808 ≤ a ∧ a ≤ 9223372036854775807) (hb : -9223372036854775808 ≤ b ∧ b ≤ 9223372036854775807) :
    Calls Try.prog 6 #[.slice a0 n cap0, .slice a1 n cap1, .int .i64 pc, .int .i64 a, .int .i64 b, .int .i64 line] w fun e w' => e = .returned (.bool true) ∧ Below w.heap.size w w' := by
  have l0 := Lib.hid r0.1
  have l1 := Lib.hid r1.1
  have B := Below.refl w.heap.size w
  have hpn : pc ≤ n := by omega
  have hq : ((pc : Int) == (n : Int)) = true := by simp; omega
  have hnn : nAt n pc = n + 1 := by simp [nAt, hp]
  have HNN := Lib.hid hnn
  clear hnn
  have HPE := Lib.hid hp
  clear hp
  obtain ⟨am, ham⟩ : ∃ r, a % 256 = r := ⟨_, rfl⟩
  obtain ⟨bm, hbm⟩ : ∃ r, b % 512 = r := ⟨_, rfl⟩
  have am0 : 0 ≤ am := by omega
  have am1 : am ≤ 255 := by omega
  have bm0 : 0 ≤ bm := by omega
  have bm1 : bm ≤ 511 := by omega
  have hcv : createv 4 a b 0 = 268435456 + am * 262144 + bm := by rw [createv_nil, ham, hbm]
  have HCV := Lib.hid hcv
  have HAM := Lib.hid ham
  have HBM := Lib.hid hbm
  clear hcv ham hbm
  go_enter Try.func6, Try.ntmps6
  go_wp2_with (first | (go_at_call 26; go_in) | (go_at_call 11; go_in))
  have s0 := Nat.le_refl w.heap.size
  go_wp2_with fail
  refine (cloneU32_any _ _ _ z0 _ r0 (by omega)).mono ?_
  rintro e w1 C
  obtain ⟨d1, rfl, g1, rg1, b1⟩ := C.rng
  clear C
  have s1 := b1.size
  replace r0 := row_below r0 b1
  replace r1 := row_below r1 b1
  replace B := bel_trans B b1 B.size
  clear b1
  go_wp2_with fail
  refine (cloneInt_any _ _ _ z1 _ r1 (by omega)).mono ?_
  rintro e w2 C
  obtain ⟨d2, rfl, g2, rg2, b2⟩ := C.rng
  clear C
  have s2 := b2.size
  replace g1 := got_below g1 b2
  replace r1 := row_below r1 b2
  replace B := bel_trans B b2 B.size
  clear b2
  go_wp2_with fail
  refine (cloneU32_any _ _ _ z0 _ (got_row g1 l0.out (by omega)) (by omega)).mono ?_
  rintro e w3 C
  obtain ⟨d3, rfl, g3, rg3, b3⟩ := C.rng
  clear C
  have s3 := b3.size
  replace g1 := got_below g1 b3
  replace g2 := got_below g2 b3
  replace B := bel_trans B b3 B.size
  clear b3
  go_wp2_with fail
  refine (cloneInt_any _ _ _ z1 _ (got_row g2 l1.out (by omega)) (by omega)).mono ?_
  rintro e w4 C
  obtain ⟨d4, rfl, g4, rg4, b4⟩ := C.rng
  clear C
  have s4 := b4.size
  replace g1 := got_below g1 b4
  replace g2 := got_below g2 b4
  replace g3 := got_below g3 b4
  replace B := bel_trans B b4 B.size
  clear b4
  go_wp2_with fail
  refine (newStore_any _ _ _ _ _ _ _ _).mono ?_
  rintro e w5 ⟨rfl, h5⟩
  have t5 := st3_alloc w4 (.slice d3 n n) (.slice d4 n n) (.int .i64 pc) 47
  have s5 : w4.heap.size + 1 ≤ (w4.alloc (.cells #[.slice d3 n n, .slice d4 n n, .int .i64 pc] 47)).heap.size := by simp
  replace g1 := got_alloc g1 (.cells #[.slice d3 n n, .slice d4 n n, .int .i64 pc] 47)
  replace g2 := got_alloc g2 (.cells #[.slice d3 n n, .slice d4 n n, .int .i64 pc] 47)
  replace g3 := got_alloc g3 (.cells #[.slice d3 n n, .slice d4 n n, .int .i64 pc] 47)
  replace g4 := got_alloc g4 (.cells #[.slice d3 n n, .slice d4 n n, .int .i64 pc] 47)
  replace B := B.alloc B.size (.cells #[.slice d3 n n, .slice d4 n n, .int .i64 pc] 47)
  rw [h5] at t5 B s5 g1 g2 g3 g4
  clear h5
  obtain ⟨c5, hc5⟩ : ∃ c, w4.heap.size = c := ⟨_, rfl⟩
  have lo5 : w4.heap.size ≤ c5 := by omega
  rw [hc5] at t5 ⊢
  have HC5 := Lib.hid hc5
  clear hc5
  have hi5 : c5 < w5.heap.size := t5.lt
  have oc6 := own_of_got (B := 0) g3 l0.out (by omega) (Nat.zero_le _)
  have ol6 := own_of_got (B := 0) g4 l1.out (by omega) (Nat.zero_le _)
  go_wp2_with fail
  refine (zzAddLoadNilF_any c5 n pc d3 d4 n n (z0.map (Value.int .u32)) (z1.map (Value.int .i64)) a b line _ t5 oc6 ol6 (by omega) hpn (fun _ => ⟨rfl, rfl⟩)).mono ?_
  rintro e w6 ⟨rfl, x6, y6, p6, q6, T6, OC6, OL6, fx6, fy6, sx6, sy6, K6⟩
  rw [putAt_map (Value.int .u32)] at OC6
  rw [putAt_map (Value.int .i64)] at OL6
  clear oc6 ol6
  have s6 := K6.size
  replace g1 := got_of g1 (fun x hx hl => K6.block x.block hl (by have := rg1 x hx; omega) (rng_ne rg1 rg3 (by omega) x hx) (rng_ne rg1 rg4 (by omega) x hx))
  replace g2 := got_of g2 (fun x hx hl => K6.block x.block hl (by have := rg2 x hx; omega) (rng_ne rg2 rg3 (by omega) x hx) (rng_ne rg2 rg4 (by omega) x hx))
  replace B := bel_alike B K6.size K6.os K6.tape K6.output (fun k hk => K6.block k (by have := B.size; omega) (by omega) (fun e => rng_ne (a := some ⟨k, 0, none⟩) (lo := k) (hi := k + 1) (by intro x hx; cases hx; exact ⟨Nat.le_refl _, Nat.lt_succ_self _⟩) rg3 (by omega) _ rfl e) (fun e => rng_ne (a := some ⟨k, 0, none⟩) (lo := k) (hi := k + 1) (by intro x hx; cases hx; exact ⟨Nat.le_refl _, Nat.lt_succ_self _⟩) rg4 (by omega) _ rfl e))
  have t5' := T6
  clear T6 t5
  have t5 := t5'
  clear t5'
  rw [HNN.out] at t5 OC6 OL6
  have RC := row_of_own (d := 0) OC6
  have RL := row_of_own (d := 0) OL6
  rw [HCV.out] at RC
  clear OC6 OL6 fx6 fy6 K6
  generalize hyy : 268435456 + am * 262144 + bm = yy at *
  have HYY := Lib.hid hyy
  clear hyy
  go_wp2_with fail
  refine (getCodes_any c5 (.slice (some ⟨x6, 0, none⟩) (n + 1) p6) _ (t5.cell (i := 0) (by omega))).mono ?_
  rintro e w' ⟨rfl, rfl⟩
  go_wp2_with fail
  refine (getLines_any c5 (.slice (some ⟨y6, 0, none⟩) (n + 1) q6) _ (t5.cell (i := 1) (by omega))).mono ?_
  rintro e w' ⟨rfl, rfl⟩
  go_wp2_with fail
  refine (getPc_any c5 (.int .i64 (pc + 1)) _ (t5.cell (i := 2) (by omega))).mono ?_
  rintro e w' ⟨rfl, rfl⟩
  go_wp2_with fail
  go_loopw [17] (fun i wr => ∃ k : Nat, k ≤ n ∧ i = .int .i64 k ∧ Below w6.heap.size w6 wr) (fun i _ => n - (intOf i).toNat)
  case atStart => exact ⟨0, Nat.zero_le _, rfl, Below.refl _ _⟩
  case round =>
    obtain ⟨k, hk, rfl, hbel⟩ := hrel
    by_cases hlt : k < n
    · have hlt' : (k : Int) < (n : Int) := by omega
      have hlt2 : (k : Int) < ((n : Int) + 1 : Int) := by omega
      obtain ⟨x1, o1, hx1, hb1, hc1⟩ := row_some (got_row g1 l0.out (by omega)) (by omega)
      obtain ⟨x2, o2, hx2, hb2, hc2⟩ := row_some (got_row g2 l1.out (by omega)) (by omega)
      have HX1 := Lib.hid hx1
      have HX2 := Lib.hid hx2
      rw [hx1, hx2]
      clear hx1 hx2
      by_cases hkp : k = pc
      · subst hkp
        have hg : ((k : Int) != (k : Int)) = false := by simp
        go_wp2
        go_quiet (fail)
        go_wp2
        go_roundw
        case rel => exact ⟨k + 1, by omega, by go_num, below_drewN hbel _⟩
        case measure => simp [intOf]; omega
      · have hg : ((k : Int) != (pc : Int)) = true := by simp; omega
        obtain ⟨u, hue⟩ : ∃ u, z0.getD k 0 = u := ⟨_, rfl⟩
        obtain ⟨v, hve⟩ : ∃ v, z1.getD k 0 = v := ⟨_, rfl⟩
        have e1 : wr.cell? ⟨x1, o1 + k, none⟩ = some (.int .u32 u) := by rw [← hue]; exact (hbel.cell (p := ⟨x1, o1 + k, none⟩) hb1).trans (hc1 k hlt)
        have e2 : wr.cell? ⟨x2, o2 + k, none⟩ = some (.int .i64 v) := by rw [← hve]; exact (hbel.cell (p := ⟨x2, o2 + k, none⟩) hb2).trans (hc2 k hlt)
        have e3 : wr.cell? ⟨x6, k, none⟩ = some (.int .u32 u) := by
          rw [← hue, ← putAt_other yy l0.out hlt hkp]
          exact (hbel.cell (p := ⟨x6, k, none⟩) sx6).trans (row_cell RC (by omega))
        have e4 : wr.cell? ⟨y6, k, none⟩ = some (.int .i64 v) := by
          rw [← hve, ← putAt_other line l1.out hlt hkp]
          exact (hbel.cell (p := ⟨y6, k, none⟩) sy6).trans (row_cell RL (by omega))
        clear hue hve hkp hc1 hc2
        go_wp2
        go_quiet (fail)
        go_wp2
        go_roundw
        case rel => exact ⟨k + 1, by omega, by go_num, below_drewN hbel _⟩
        case measure => simp [intOf]; omega
    · have e3 : wr.cell? ⟨x6, pc, none⟩ = some (.int .u32 yy) := by
        rw [← putAt_self yy l0.out hpn]
        exact (hbel.cell (p := ⟨x6, pc, none⟩) sx6).trans (row_cell RC (by (have := HPE.out; omega)))
      have e4 : wr.cell? ⟨y6, pc, none⟩ = some (.int .i64 line) := by
        rw [← putAt_self line l1.out hpn]
        exact (hbel.cell (p := ⟨y6, pc, none⟩) sy6).trans (row_cell RL (by (have := HPE.out; omega)))
      have hpc2 : (pc : Int) < ((n : Int) + 1 : Int) := by (have := HPE.out; omega)
      have hyy : (yy == 268435456 + am * 262144 + bm) = true := by simp [HYY.out]
      go_wp2_with (go_at_call 27; first | (with_reducible refine (zzMod_val a 256 am HAM.out _ (by omega) ha).mono ?_; rintro e w8 ⟨rfl, rfl⟩) | (with_reducible refine (zzMod_val b 512 bm HBM.out _ (by omega) hb).mono ?_; rintro e w8 ⟨rfl, rfl⟩))
      go_ret
      exact ⟨rfl, bel_trans B hbel B.size⟩

set_option maxHeartbeats 600000 in
theorem main_mid (a0 : Option Addr) (n cap0 : Nat) (z0 : List Int) (a1 : Option Addr) (cap1 : Nat) (z1 : List Int) (pc : Nat) (a b line : Int) (w : World) (r0 : IsRow (.int .u32) 0 w a0 n cap0 z0) (r1 : IsRow (.int .i64) 0 w a1 n cap1 z1)
    (hl : n ≤ 65536) (hp : pc < n) (ha : -9223372036854775808 ≤ a ∧ a ≤ 9223372036854775807) (hb : -9223372036854775808 ≤ b ∧ b ≤ 9223372036854775807) :
    Calls Try.prog 6 #[.slice a0 n cap0, .slice a1 n cap1, .int .i64 pc, .int .i64 a, .int .i64 b, .int .i64 line] w fun e w' => e = .returned (.bool true) ∧ Below w.heap.size w w' := by
  have l0 := Lib.hid r0.1
  have l1 := Lib.hid r1.1
  have B := Below.refl w.heap.size w
  have hpn : pc ≤ n := by omega
  have hq : ((pc : Int) == (n : Int)) = false := by simp; omega
  have hnn : nAt n pc = n := by unfold nAt; rw [if_neg (by omega)]
  have HNN := Lib.hid hnn
  clear hnn
  obtain ⟨am, ham⟩ : ∃ r, a % 256 = r := ⟨_, rfl⟩
  obtain ⟨bm, hbm⟩ : ∃ r, b % 512 = r := ⟨_, rfl⟩
  have am0 : 0 ≤ am := by omega
  have am1 : am ≤ 255 := by omega
  have bm0 : 0 ≤ bm := by omega
  have bm1 : bm ≤ 511 := by omega
  have hcv : createv 4 a b 0 = 268435456 + am * 262144 + bm := by rw [createv_nil, ham, hbm]
  have HCV := Lib.hid hcv
  have HAM := Lib.hid ham
  have HBM := Lib.hid hbm
  clear hcv ham hbm
  go_enter Try.func6, Try.ntmps6
  go_wp2_with (first | (go_at_call 26; go_in) | (go_at_call 11; go_in))
  have s0 := Nat.le_refl w.heap.size
  go_wp2_with fail
  refine (cloneU32_any _ _ _ z0 _ r0 (by omega)).mono ?_
  rintro e w1 C
  obtain ⟨d1, rfl, g1, rg1, b1⟩ := C.rng
  clear C
  have s1 := b1.size
  replace r0 := row_below r0 b1
  replace r1 := row_below r1 b1
  replace B := bel_trans B b1 B.size
  clear b1
  go_wp2_with fail
  refine (cloneInt_any _ _ _ z1 _ r1 (by omega)).mono ?_
  rintro e w2 C
  obtain ⟨d2, rfl, g2, rg2, b2⟩ := C.rng
  clear C
  have s2 := b2.size
  replace g1 := got_below g1 b2
  replace r1 := row_below r1 b2
  replace B := bel_trans B b2 B.size
  clear b2
  go_wp2_with fail
  refine (cloneU32_any _ _ _ z0 _ (got_row g1 l0.out (by omega)) (by omega)).mono ?_
  rintro e w3 C
  obtain ⟨d3, rfl, g3, rg3, b3⟩ := C.rng
  clear C
  have s3 := b3.size
  replace g1 := got_below g1 b3
  replace g2 := got_below g2 b3
  replace B := bel_trans B b3 B.size
  clear b3
  go_wp2_with fail
  refine (cloneInt_any _ _ _ z1 _ (got_row g2 l1.out (by omega)) (by omega)).mono ?_
  rintro e w4 C
  obtain ⟨d4, rfl, g4, rg4, b4⟩ := C.rng
  clear C
  have s4 := b4.size
  replace g1 := got_below g1 b4
  replace g2 := got_below g2 b4
  replace g3 := got_below g3 b4
  replace B := bel_trans B b4 B.size
  clear b4
  go_wp2_with fail
  refine (newStore_any _ _ _ _ _ _ _ _).mono ?_
  rintro e w5 ⟨rfl, h5⟩
  have t5 := st3_alloc w4 (.slice d3 n n) (.slice d4 n n) (.int .i64 pc) 47
  have s5 : w4.heap.size + 1 ≤ (w4.alloc (.cells #[.slice d3 n n, .slice d4 n n, .int .i64 pc] 47)).heap.size := by simp
  replace g1 := got_alloc g1 (.cells #[.slice d3 n n, .slice d4 n n, .int .i64 pc] 47)
  replace g2 := got_alloc g2 (.cells #[.slice d3 n n, .slice d4 n n, .int .i64 pc] 47)
  replace g3 := got_alloc g3 (.cells #[.slice d3 n n, .slice d4 n n, .int .i64 pc] 47)
  replace g4 := got_alloc g4 (.cells #[.slice d3 n n, .slice d4 n n, .int .i64 pc] 47)
  replace B := B.alloc B.size (.cells #[.slice d3 n n, .slice d4 n n, .int .i64 pc] 47)
  rw [h5] at t5 B s5 g1 g2 g3 g4
  clear h5
  obtain ⟨c5, hc5⟩ : ∃ c, w4.heap.size = c := ⟨_, rfl⟩
  have lo5 : w4.heap.size ≤ c5 := by omega
  rw [hc5] at t5 ⊢
  have HC5 := Lib.hid hc5
  clear hc5
  have hi5 : c5 < w5.heap.size := t5.lt
  have oc6 := own_of_got (B := 0) g3 l0.out (by omega) (Nat.zero_le _)
  have ol6 := own_of_got (B := 0) g4 l1.out (by omega) (Nat.zero_le _)
  go_wp2_with fail
  refine (zzAddLoadNilF_any c5 n pc d3 d4 n n (z0.map (Value.int .u32)) (z1.map (Value.int .i64)) a b line _ t5 oc6 ol6 (by omega) hpn (fun _ => ⟨rfl, rfl⟩)).mono ?_
  rintro e w6 ⟨rfl, x6, y6, p6, q6, T6, OC6, OL6, fx6, fy6, sx6, sy6, K6⟩
  rw [putAt_map (Value.int .u32)] at OC6
  rw [putAt_map (Value.int .i64)] at OL6
  clear oc6 ol6
  have s6 := K6.size
  replace g1 := got_of g1 (fun x hx hl => K6.block x.block hl (by have := rg1 x hx; omega) (rng_ne rg1 rg3 (by omega) x hx) (rng_ne rg1 rg4 (by omega) x hx))
  replace g2 := got_of g2 (fun x hx hl => K6.block x.block hl (by have := rg2 x hx; omega) (rng_ne rg2 rg3 (by omega) x hx) (rng_ne rg2 rg4 (by omega) x hx))
  replace B := bel_alike B K6.size K6.os K6.tape K6.output (fun k hk => K6.block k (by have := B.size; omega) (by omega) (fun e => rng_ne (a := some ⟨k, 0, none⟩) (lo := k) (hi := k + 1) (by intro x hx; cases hx; exact ⟨Nat.le_refl _, Nat.lt_succ_self _⟩) rg3 (by omega) _ rfl e) (fun e => rng_ne (a := some ⟨k, 0, none⟩) (lo := k) (hi := k + 1) (by intro x hx; cases hx; exact ⟨Nat.le_refl _, Nat.lt_succ_self _⟩) rg4 (by omega) _ rfl e))
  have t5' := T6
  clear T6 t5
  have t5 := t5'
  clear t5'
  rw [HNN.out] at t5 OC6 OL6
  have RC := row_of_own (d := 0) OC6
  have RL := row_of_own (d := 0) OL6
  rw [HCV.out] at RC
  clear OC6 OL6 fx6 fy6 K6
  generalize hyy : 268435456 + am * 262144 + bm = yy at *
  have HYY := Lib.hid hyy
  clear hyy
  go_wp2_with fail
  refine (getCodes_any c5 (.slice (some ⟨x6, 0, none⟩) n p6) _ (t5.cell (i := 0) (by omega))).mono ?_
  rintro e w' ⟨rfl, rfl⟩
  go_wp2_with fail
  refine (getLines_any c5 (.slice (some ⟨y6, 0, none⟩) n q6) _ (t5.cell (i := 1) (by omega))).mono ?_
  rintro e w' ⟨rfl, rfl⟩
  go_wp2_with fail
  refine (getPc_any c5 (.int .i64 (pc + 1)) _ (t5.cell (i := 2) (by omega))).mono ?_
  rintro e w' ⟨rfl, rfl⟩
  go_wp2_with fail
  go_loopw [17] (fun i wr => ∃ k : Nat, k ≤ n ∧ i = .int .i64 k ∧ Below w6.heap.size w6 wr) (fun i _ => n - (intOf i).toNat)
  case atStart => exact ⟨0, Nat.zero_le _, rfl, Below.refl _ _⟩
  case round =>
    obtain ⟨k, hk, rfl, hbel⟩ := hrel
    by_cases hlt : k < n
    · have hlt' : (k : Int) < (n : Int) := by omega
      have hlt2 : (k : Int) < (n : Int) := by omega
      obtain ⟨x1, o1, hx1, hb1, hc1⟩ := row_some (got_row g1 l0.out (by omega)) (by omega)
      obtain ⟨x2, o2, hx2, hb2, hc2⟩ := row_some (got_row g2 l1.out (by omega)) (by omega)
      have HX1 := Lib.hid hx1
      have HX2 := Lib.hid hx2
      rw [hx1, hx2]
      clear hx1 hx2
      by_cases hkp : k = pc
      · subst hkp
        have hg : ((k : Int) != (k : Int)) = false := by simp
        go_wp2
        go_quiet (fail)
        go_wp2
        go_roundw
        case rel => exact ⟨k + 1, by omega, by go_num, below_drewN hbel _⟩
        case measure => simp [intOf]; omega
      · have hg : ((k : Int) != (pc : Int)) = true := by simp; omega
        obtain ⟨u, hue⟩ : ∃ u, z0.getD k 0 = u := ⟨_, rfl⟩
        obtain ⟨v, hve⟩ : ∃ v, z1.getD k 0 = v := ⟨_, rfl⟩
        have e1 : wr.cell? ⟨x1, o1 + k, none⟩ = some (.int .u32 u) := by rw [← hue]; exact (hbel.cell (p := ⟨x1, o1 + k, none⟩) hb1).trans (hc1 k hlt)
        have e2 : wr.cell? ⟨x2, o2 + k, none⟩ = some (.int .i64 v) := by rw [← hve]; exact (hbel.cell (p := ⟨x2, o2 + k, none⟩) hb2).trans (hc2 k hlt)
        have e3 : wr.cell? ⟨x6, k, none⟩ = some (.int .u32 u) := by
          rw [← hue, ← putAt_other yy l0.out hlt hkp]
          exact (hbel.cell (p := ⟨x6, k, none⟩) sx6).trans (row_cell RC (by omega))
        have e4 : wr.cell? ⟨y6, k, none⟩ = some (.int .i64 v) := by
          rw [← hve, ← putAt_other line l1.out hlt hkp]
          exact (hbel.cell (p := ⟨y6, k, none⟩) sy6).trans (row_cell RL (by omega))
        clear hue hve hkp hc1 hc2
        go_wp2
        go_quiet (fail)
        go_wp2
        go_roundw
        case rel => exact ⟨k + 1, by omega, by go_num, below_drewN hbel _⟩
        case measure => simp [intOf]; omega
    · have e3 : wr.cell? ⟨x6, pc, none⟩ = some (.int .u32 yy) := by
        rw [← putAt_self yy l0.out hpn]
        exact (hbel.cell (p := ⟨x6, pc, none⟩) sx6).trans (row_cell RC (by omega))
      have e4 : wr.cell? ⟨y6, pc, none⟩ = some (.int .i64 line) := by
        rw [← putAt_self line l1.out hpn]
        exact (hbel.cell (p := ⟨y6, pc, none⟩) sy6).trans (row_cell RL (by omega))
      have hpc2 : (pc : Int) < (n : Int) := by omega
      have hyy : (yy == 268435456 + am * 262144 + bm) = true := by simp [HYY.out]
      go_wp2_with (go_at_call 27; first | (with_reducible refine (zzMod_val a 256 am HAM.out _ (by omega) ha).mono ?_; rintro e w8 ⟨rfl, rfl⟩) | (with_reducible refine (zzMod_val b 512 bm HBM.out _ (by omega) hb).mono ?_; rintro e w8 ⟨rfl, rfl⟩))
      go_ret
      exact ⟨rfl, bel_trans B hbel B.size⟩

theorem walk (a0 : Option Addr) (len0 cap0 : Nat) (z0 : List Int) (a1 : Option Addr) (len1 cap1 : Nat) (z1 : List Int) (a2 : Int) (a3 : Int) (a4 : Int) (a5 : Int) (w : World) (r0 : IsRow (.int .u32) 0 w a0 len0 cap0 z0) (w0 : ∀ z ∈ z0, (Lit.int .u32 z).wf = true) (r1 : IsRow (.int .i64) 0 w a1 len1 cap1 z1) (w1 : ∀ z ∈ z1, (Lit.int .i64 z).wf = true) (w2 : (Lit.int .i64 a2).wf = true) (w3 : (Lit.int .i64 a3).wf = true) (w4 : (Lit.int .i64 a4).wf = true) (w5 : (Lit.int .i64 a5).wf = true) :
    Calls Try.prog 6 #[.slice a0 len0 cap0, .slice a1 len1 cap1, .int .i64 a2, .int .i64 a3, .int .i64 a4, .int .i64 a5] w fun e w' => e = .returned (.bool true) ∧ Below w.heap.size w w' := by
  have hv2 := i64_bd w2
  have hv3 := i64_bd w3
  have hv4 := i64_bd w4
  have hv5 := i64_bd w5
  have m0 := r0.2.1
  have m0' := r0.2.2.1
  have m1 := r1.2.1
  have m1' := r1.2.2.1
  unfold maxLen at m0' m1'
  by_cases g1 : (65536 : Int) < (len0 : Int)
  · clear r0 r1
    go_enter Try.func6, Try.ntmps6
    go_wp2
    all_goals (go_ret; exact ⟨rfl, Below.refl _ _⟩)
  by_cases g2 : (65536 : Int) < (len1 : Int)
  · clear r0 r1
    go_enter Try.func6, Try.ntmps6
    go_wp2
    all_goals (go_ret; exact ⟨rfl, Below.refl _ _⟩)
  by_cases g3 : len0 = len1
  · subst g3
    by_cases g4 : a2 < 0
    · clear r0 r1
      go_enter Try.func6, Try.ntmps6
      go_wp2
      all_goals (go_ret; exact ⟨rfl, Below.refl _ _⟩)
    by_cases g5 : (len0 : Int) < a2
    · clear r0 r1
      have g5' : decide (a2 ≤ (len0 : Int)) = false := by simp; omega
      go_enter Try.func6, Try.ntmps6
      go_wp2
      all_goals (go_ret; exact ⟨rfl, Below.refl _ _⟩)
    obtain ⟨pc, rfl⟩ := Int.eq_ofNat_of_zero_le (show 0 ≤ a2 by omega)
    by_cases hc : pc = len0
    · exact main_end a0 len0 cap0 z0 a1 cap1 z1 pc a3 a4 a5 w r0 r1 (by omega) hc hv3 hv4
    · exact main_mid a0 len0 cap0 z0 a1 cap1 z1 pc a3 a4 a5 w r0 r1 (by omega) (by omega) hv3 hv4
  · have g3' : ((len0 : Int) == (len1 : Int)) = false := by simp; omega
    clear r0 r1 g3
    go_enter Try.func6, Try.ntmps6
    go_wp2
    all_goals (go_ret; exact ⟨rfl, Below.refl _ _⟩)
end Go.Proofs.Ytgmihjpfnphoiaa.fnAddLoadNilExact
