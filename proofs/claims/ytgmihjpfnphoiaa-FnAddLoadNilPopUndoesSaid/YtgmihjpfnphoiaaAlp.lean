/- The walk of FnAddLoadNilPopUndoes: the Go text returns true and writes nothing that was there. -/
import Derived.Test.YtgmihjpfnphoiaaAnF
import Derived.Test.YtgmihjpfnphoiaaCloneU32
import Derived.Test.YtgmihjpfnphoiaaCloneInt
import Derived.Test.YtgmihjpfnphoiaaEqU32
import Derived.Test.YtgmihjpfnphoiaaEqInt
namespace Go.Proofs.Ytgmihjpfnphoiaa.fnAddLoadNilPopUndoes
open Go.ChangeShapes Go.WideShapes Go.ChangeAt Go.RowKit
set_option linter.unusedVariables false

theorem putAt_putAt {zs : List Int} {n pc : Nat} (y1 y2 : Int) (hz : zs.length = n) (hp : pc ≤ n) : putAt (putAt zs n pc y1) (nAt n pc) pc y2 = putAt zs n pc y2 := by
  unfold putAt nAt
  by_cases e : pc = n
  · subst e
    simp [hz]
  · simp [e]
theorem nAt_lt {n pc : Nat} (hp : pc ≤ n) : pc < nAt n pc := by unfold nAt; split <;> omega
theorem nAt_le {n pc : Nat} : nAt n pc ≤ n + 1 := by unfold nAt; split <;> omega
theorem nAt_nAt {n pc : Nat} (hp : pc ≤ n) : nAt (nAt n pc) pc = nAt n pc := by
  have := nAt_lt hp
  generalize nAt n pc = m at *
  unfold nAt
  rw [if_neg (by omega)]

set_option maxHeartbeats 800000 in
theorem main (a0 : Option Addr) (n cap0 : Nat) (z0 : List Int) (a1 : Option Addr) (cap1 : Nat) (z1 : List Int) (pc : Nat) (e1 f1 l1' e2 f2 l2' : Int) (w : World) (r0 : IsRow (.int .u32) 0 w a0 n cap0 z0) (r1 : IsRow (.int .i64) 0 w a1 n cap1 z1)
    (hl : n ≤ 65536) (hpn : pc ≤ n) :
    Calls Try.prog 3 #[.slice a0 n cap0, .slice a1 n cap1, .int .i64 pc, .int .i64 e1, .int .i64 f1, .int .i64 l1', .int .i64 e2, .int .i64 f2, .int .i64 l2'] w fun e w' => e = .returned (.bool true) ∧ Below w.heap.size w w' := by
  have l0 := Lib.hid r0.1
  have l1 := Lib.hid r1.1
  have B := Below.refl w.heap.size w
  have hm1 := nAt_lt hpn
  have hm2 := nAt_le (n := n) (pc := pc)
  have HM := Lib.hid (nAt_nAt hpn)
  go_enter Try.func3, Try.ntmps3
  go_wp2_with (first | (go_at_call 10; go_in) | (go_at_call 11; go_in))
  have s0 := Nat.le_refl w.heap.size
  go_wp2_with fail
  refine (cloneU32_any _ _ _ z0 _ r0 (by omega)).mono ?_
  rintro e w1 C
  obtain ⟨d1, rfl, g1, rg1, b1⟩ := C.rng
  clear C
  have s1 := b1.size
  replace r0 := row_below r0 b1
  replace r1 := row_below r1 b1
  replace B := bel_trans B b1 B.size
  clear b1
  go_wp2_with fail
  refine (cloneInt_any _ _ _ z1 _ r1 (by omega)).mono ?_
  rintro e w2 C
  obtain ⟨d2, rfl, g2, rg2, b2⟩ := C.rng
  clear C
  have s2 := b2.size
  replace g1 := got_below g1 b2
  replace r1 := row_below r1 b2
  replace B := bel_trans B b2 B.size
  clear b2
  go_wp2_with fail
  refine (cloneU32_any _ _ _ z0 _ (got_row g1 l0.out (by omega)) (by omega)).mono ?_
  rintro e w3 C
  obtain ⟨d3, rfl, g3, rg3, b3⟩ := C.rng
  clear C
  have s3 := b3.size
  replace g1 := got_below g1 b3
  replace g2 := got_below g2 b3
  replace B := bel_trans B b3 B.size
  clear b3
  go_wp2_with fail
  refine (cloneInt_any _ _ _ z1 _ (got_row g2 l1.out (by omega)) (by omega)).mono ?_
  rintro e w4 C
  obtain ⟨d4, rfl, g4, rg4, b4⟩ := C.rng
  clear C
  have s4 := b4.size
  replace g1 := got_below g1 b4
  replace g2 := got_below g2 b4
  replace g3 := got_below g3 b4
  replace B := bel_trans B b4 B.size
  clear b4
  go_wp2_with fail
  refine (newStore_any _ _ _ _ _ _ _ _).mono ?_
  rintro e w5 ⟨rfl, h5⟩
  have t5 := st3_alloc w4 (.slice d3 n n) (.slice d4 n n) (.int .i64 pc) 47
  have s5 : w4.heap.size + 1 ≤ (w4.alloc (.cells #[.slice d3 n n, .slice d4 n n, .int .i64 pc] 47)).heap.size := by simp
  replace g1 := got_alloc g1 (.cells #[.slice d3 n n, .slice d4 n n, .int .i64 pc] 47)
  replace g2 := got_alloc g2 (.cells #[.slice d3 n n, .slice d4 n n, .int .i64 pc] 47)
  replace g3 := got_alloc g3 (.cells #[.slice d3 n n, .slice d4 n n, .int .i64 pc] 47)
  replace g4 := got_alloc g4 (.cells #[.slice d3 n n, .slice d4 n n, .int .i64 pc] 47)
  replace B := B.alloc B.size (.cells #[.slice d3 n n, .slice d4 n n, .int .i64 pc] 47)
  rw [h5] at t5 B s5 g1 g2 g3 g4
  clear h5
  obtain ⟨c5, hc5⟩ : ∃ c, w4.heap.size = c := ⟨_, rfl⟩
  have lo5 : w4.heap.size ≤ c5 := by omega
  rw [hc5] at t5 ⊢
  have HC5 := Lib.hid hc5
  clear hc5
  have hi5 : c5 < w5.heap.size := t5.lt
  go_wp2_with fail
  refine (cloneU32_any _ _ _ z0 _ (got_row g1 l0.out (by omega)) (by omega)).mono ?_
  rintro e w6 C
  obtain ⟨d6, rfl, g6, rg6, b6⟩ := C.rng
  clear C
  have s6 := b6.size
  replace g1 := got_below g1 b6
  replace g2 := got_below g2 b6
  replace g3 := got_below g3 b6
  replace g4 := got_below g4 b6
  replace t5 := rowIs_below b6 t5.lt t5
  replace B := bel_trans B b6 B.size
  clear b6
  go_wp2_with fail
  refine (cloneInt_any _ _ _ z1 _ (got_row g2 l1.out (by omega)) (by omega)).mono ?_
  rintro e w7 C
  obtain ⟨d7, rfl, g7, rg7, b7⟩ := C.rng
  clear C
  have s7 := b7.size
  replace g1 := got_below g1 b7
  replace g2 := got_below g2 b7
  replace g3 := got_below g3 b7
  replace g4 := got_below g4 b7
  replace g6 := got_below g6 b7
  replace t5 := rowIs_below b7 t5.lt t5
  replace B := bel_trans B b7 B.size
  clear b7
  go_wp2_with fail
  refine (newStore_any _ _ _ _ _ _ _ _).mono ?_
  rintro e w8 ⟨rfl, h8⟩
  have t8 := st3_alloc w7 (.slice d6 n n) (.slice d7 n n) (.int .i64 pc) 47
  have s8 : w7.heap.size + 1 ≤ (w7.alloc (.cells #[.slice d6 n n, .slice d7 n n, .int .i64 pc] 47)).heap.size := by simp
  replace g1 := got_alloc g1 (.cells #[.slice d6 n n, .slice d7 n n, .int .i64 pc] 47)
  replace g2 := got_alloc g2 (.cells #[.slice d6 n n, .slice d7 n n, .int .i64 pc] 47)
  replace g3 := got_alloc g3 (.cells #[.slice d6 n n, .slice d7 n n, .int .i64 pc] 47)
  replace g4 := got_alloc g4 (.cells #[.slice d6 n n, .slice d7 n n, .int .i64 pc] 47)
  replace g6 := got_alloc g6 (.cells #[.slice d6 n n, .slice d7 n n, .int .i64 pc] 47)
  replace g7 := got_alloc g7 (.cells #[.slice d6 n n, .slice d7 n n, .int .i64 pc] 47)
  replace t5 := t5.alloc (.cells #[.slice d6 n n, .slice d7 n n, .int .i64 pc] 47)
  replace B := B.alloc B.size (.cells #[.slice d6 n n, .slice d7 n n, .int .i64 pc] 47)
  rw [h8] at t8 B s8 g1 g2 g3 g4 g6 g7 t5
  clear h8
  obtain ⟨c8, hc8⟩ : ∃ c, w7.heap.size = c := ⟨_, rfl⟩
  have lo8 : w7.heap.size ≤ c8 := by omega
  rw [hc8] at t8 ⊢
  have HC8 := Lib.hid hc8
  clear hc8
  have hi8 : c8 < w8.heap.size := t8.lt
  have oc9 := own_of_got (B := 0) g3 l0.out (by omega) (Nat.zero_le _)
  have ol9 := own_of_got (B := 0) g4 l1.out (by omega) (Nat.zero_le _)
  go_wp2_with fail
  refine (zzAddLoadNilF_any c5 n pc d3 d4 n n (z0.map (Value.int .u32)) (z1.map (Value.int .i64)) e1 f1 l1' _ t5 oc9 ol9 (by omega) hpn (fun _ => ⟨rfl, rfl⟩)).mono ?_
  rintro e w9 ⟨rfl, x9, y9, p9, q9, T9, OC9, OL9, fx9, fy9, sx9, sy9, K9⟩
  rw [putAt_map (Value.int .u32)] at OC9
  rw [putAt_map (Value.int .i64)] at OL9
  clear oc9 ol9
  have s9 := K9.size
  replace g6 := got_of g6 (fun x hx hl => K9.block x.block hl (by have := rg6 x hx; omega) (rng_ne rg6 rg3 (by omega) x hx) (rng_ne rg6 rg4 (by omega) x hx))
  replace g7 := got_of g7 (fun x hx hl => K9.block x.block hl (by have := rg7 x hx; omega) (rng_ne rg7 rg3 (by omega) x hx) (rng_ne rg7 rg4 (by omega) x hx))
  replace t8 := t8.of_block (K9.block c8 t8.lt (by omega) (fun e => rng_ne (a := some ⟨c8, 0, none⟩) (lo := c8) (hi := c8 + 1) (by intro x hx; cases hx; exact ⟨Nat.le_refl _, Nat.lt_succ_self _⟩) rg3 (by omega) _ rfl e) (fun e => rng_ne (a := some ⟨c8, 0, none⟩) (lo := c8) (hi := c8 + 1) (by intro x hx; cases hx; exact ⟨Nat.le_refl _, Nat.lt_succ_self _⟩) rg4 (by omega) _ rfl e))
  replace B := bel_alike B K9.size K9.os K9.tape K9.output (fun k hk => K9.block k (by have := B.size; omega) (by omega) (fun e => rng_ne (a := some ⟨k, 0, none⟩) (lo := k) (hi := k + 1) (by intro x hx; cases hx; exact ⟨Nat.le_refl _, Nat.lt_succ_self _⟩) rg3 (by omega) _ rfl e) (fun e => rng_ne (a := some ⟨k, 0, none⟩) (lo := k) (hi := k + 1) (by intro x hx; cases hx; exact ⟨Nat.le_refl _, Nat.lt_succ_self _⟩) rg4 (by omega) _ rfl e))
  have t5' := T9
  clear T9 t5
  have t5 := t5'
  clear t5'
  have nx9 : (w2.heap.size ≤ x9 ∧ x9 < w3.heap.size) ∨ w8.heap.size ≤ x9 := by
    rcases fx9 with h | h
    · exact .inr h
    · exact .inl (own_rng rg3 h)
  have ny9 : (w3.heap.size ≤ y9 ∧ y9 < w4.heap.size) ∨ w8.heap.size ≤ y9 := by
    rcases fy9 with h | h
    · exact .inr h
    · exact .inl (own_rng rg4 h)
  clear fx9 fy9 K9
  go_wp2_with fail
  refine (zzPop_any c5 (pc + 1) _ (t5.cell (i := 2) (by omega)) (t5.frozen 2) (by omega) (by omega)).mono ?_
  rintro e w10 ⟨rfl, h10⟩
  have ep : (pc : Int) + 1 - 1 = pc := by omega
  rw [ep] at h10
  have B10 := B.setCell (p := ⟨c5, 2, none⟩) (show w.heap.size ≤ c5 by omega) (.int .i64 pc)
  have t5' := st3_set2 t5 (.int .i64 pc)
  have t8' := t8.setOther (a := ⟨c5, 2, none⟩) (show c8 ≠ c5 by omega) (.int .i64 pc)
  have OC' := ownsRow_setCell_other OC9 (a := ⟨c5, 2, none⟩) (by have := own_ne_row t5 OC9 (by decide); exact this) (.int .i64 pc)
  have OL' := ownsRow_setCell_other OL9 (a := ⟨c5, 2, none⟩) (by have := own_ne_row t5 OL9 (by decide); exact this) (.int .i64 pc)
  have g6' := got_of (w' := w9.setCell ⟨c5, 2, none⟩ (.int .i64 pc)) g6 (fun x hx hl => Below.heap_setCell _ _ _ _ (by have := rg6 x hx; show x.block ≠ c5; omega))
  have g7' := got_of (w' := w9.setCell ⟨c5, 2, none⟩ (.int .i64 pc)) g7 (fun x hx hl => Below.heap_setCell _ _ _ _ (by have := rg7 x hx; show x.block ≠ c5; omega))
  have s10 : w9.heap.size ≤ (w9.setCell ⟨c5, 2, none⟩ (.int .i64 pc)).heap.size := by simp
  rw [h10] at B10 t5' t8' OC' OL' g6' g7' s10
  clear B t5 t8 OC9 OL9 g6 g7 h10 ep
  go_wp2_with fail
  refine (zzAddLoadNilF_any c5 (nAt n pc) pc _ _ p9 q9 _ _ e2 f2 l2' _ t5' OC' OL' (by omega) (by omega) (fun h => by omega)).mono ?_
  rintro e w11 ⟨rfl, x11, y11, p11, q11, T11, OC11, OL11, fx11, fy11, sx11, sy11, K11⟩
  rw [putAt_map (Value.int .u32), putAt_putAt _ _ l0.out hpn] at OC11
  rw [putAt_map (Value.int .i64), putAt_putAt _ _ l1.out hpn] at OL11
  rw [HM.out] at T11 OC11 OL11
  have nx11 : (w2.heap.size ≤ x11 ∧ x11 < w3.heap.size) ∨ w8.heap.size ≤ x11 := by
    rcases fx11 with h | h
    · exact .inr (by omega)
    · simp [Value.ownBlock] at h; omega
  have ny11 : (w3.heap.size ≤ y11 ∧ y11 < w4.heap.size) ∨ w8.heap.size ≤ y11 := by
    rcases fy11 with h | h
    · exact .inr (by omega)
    · simp [Value.ownBlock] at h; omega
  have s11 := K11.size
  have g6 := got_of g6' (fun x hx hl => K11.block x.block hl (by have := rg6 x hx; omega) (ne_own (by have := rg6 x hx; omega)) (ne_own (by have := rg6 x hx; omega)))
  have g7 := got_of g7' (fun x hx hl => K11.block x.block hl (by have := rg7 x hx; omega) (ne_own (by have := rg7 x hx; omega)) (ne_own (by have := rg7 x hx; omega)))
  have t8 := t8'.of_block (K11.block c8 t8'.lt (by omega) (ne_own (by omega)) (ne_own (by omega)))
  have B11 := bel_alike B10 K11.size K11.os K11.tape K11.output (fun k hk => K11.block k (by have := B10.size; omega) (by omega) (ne_own (by omega)) (ne_own (by omega)))
  have RC11 := row_of_own (d := 0) OC11
  have RL11 := row_of_own (d := 0) OL11
  clear g6' g7' t8' t5' OC' OL' B10 K11 fx11 fy11 OC11 OL11
  have oc12 := own_of_got (B := 0) g6 l0.out (by omega) (Nat.zero_le _)
  have ol12 := own_of_got (B := 0) g7 l1.out (by omega) (Nat.zero_le _)
  go_wp2_with fail
  refine (zzAddLoadNilF_any c8 n pc d6 d7 n n (z0.map (Value.int .u32)) (z1.map (Value.int .i64)) e2 f2 l2' _ t8 oc12 ol12 (by omega) hpn (fun _ => ⟨rfl, rfl⟩)).mono ?_
  rintro e w12 ⟨rfl, x12, y12, p12, q12, T12, OC12, OL12, fx12, fy12, sx12, sy12, K12⟩
  rw [putAt_map (Value.int .u32)] at OC12
  rw [putAt_map (Value.int .i64)] at OL12
  have s12 := K12.size
  have RC12 := row_of_own (d := 0) OC12
  have RL12 := row_of_own (d := 0) OL12
  have RC := row_keep RC11 K12.size (K12.block x11 sx11 (by omega) (ne_rng rg6 (by omega)) (ne_rng rg7 (by omega)))
  have RL := row_keep RL11 K12.size (K12.block y11 sy11 (by omega) (ne_rng rg6 (by omega)) (ne_rng rg7 (by omega)))
  have t5 := T11.of_block (K12.block c5 T11.lt (by omega) (ne_rng rg6 (by omega)) (ne_rng rg7 (by omega)))
  have t8 := T12
  have B := bel_alike B11 K12.size K12.os K12.tape K12.output (fun k hk => K12.block k (by have := B11.size; omega) (by omega) (ne_rng rg6 (by omega)) (ne_rng rg7 (by omega)))
  clear T11 T12 RC11 RL11 B11 K12 fx12 fy12 OC12 OL12 oc12 ol12 g6 g7
  go_wp2_with fail
  refine (getPc_any c5 (.int .i64 (pc + 1)) _ (t5.cell (i := 2) (by omega))).mono ?_
  rintro e w' ⟨rfl, rfl⟩
  go_wp2_with fail
  refine (getPc_any c8 (.int .i64 (pc + 1)) _ (t8.cell (i := 2) (by omega))).mono ?_
  rintro e w' ⟨rfl, rfl⟩
  go_wp2_with fail
  refine (getCodes_any c5 (.slice (some ⟨x11, 0, none⟩) (nAt n pc) p11) _ (t5.cell (i := 0) (by omega))).mono ?_
  rintro e w' ⟨rfl, rfl⟩
  go_wp2_with fail
  refine (getCodes_any c8 (.slice (some ⟨x12, 0, none⟩) (nAt n pc) p12) _ (t8.cell (i := 0) (by omega))).mono ?_
  rintro e w' ⟨rfl, rfl⟩
  go_wp2_with fail
  refine (eqU32_same _ _ (nAt n pc) p11 p12 _ _ RC RC12 (by omega)).mono ?_
  rintro e w13 ⟨rfl, b13⟩
  replace RL := row_below RL b13
  replace RL12 := row_below RL12 b13
  replace t5 := rowIs_below b13 t5.lt t5
  replace t8 := rowIs_below b13 t8.lt t8
  replace B := bel_trans B b13 B.size
  clear b13 RC RC12
  go_wp2_with fail
  refine (getLines_any c5 (.slice (some ⟨y11, 0, none⟩) (nAt n pc) q11) _ (t5.cell (i := 1) (by omega))).mono ?_
  rintro e w' ⟨rfl, rfl⟩
  go_wp2_with fail
  refine (getLines_any c8 (.slice (some ⟨y12, 0, none⟩) (nAt n pc) q12) _ (t8.cell (i := 1) (by omega))).mono ?_
  rintro e w' ⟨rfl, rfl⟩
  go_wp2_with fail
  refine (eqInt_same _ _ (nAt n pc) q11 q12 _ _ RL RL12 (by omega)).mono ?_
  rintro e w14 ⟨rfl, b14⟩
  replace B := bel_trans B b14 B.size
  go_wp2_with fail
  go_ret
  exact ⟨rfl, B⟩

theorem walk (a0 : Option Addr) (len0 cap0 : Nat) (z0 : List Int) (a1 : Option Addr) (len1 cap1 : Nat) (z1 : List Int) (a2 : Int) (a3 : Int) (a4 : Int) (a5 : Int) (a6 : Int) (a7 : Int) (a8 : Int) (w : World) (r0 : IsRow (.int .u32) 0 w a0 len0 cap0 z0) (w0 : ∀ z ∈ z0, (Lit.int .u32 z).wf = true) (r1 : IsRow (.int .i64) 0 w a1 len1 cap1 z1) (w1 : ∀ z ∈ z1, (Lit.int .i64 z).wf = true) (w2 : (Lit.int .i64 a2).wf = true) (w3 : (Lit.int .i64 a3).wf = true) (w4 : (Lit.int .i64 a4).wf = true) (w5 : (Lit.int .i64 a5).wf = true) (w6 : (Lit.int .i64 a6).wf = true) (w7 : (Lit.int .i64 a7).wf = true) (w8 : (Lit.int .i64 a8).wf = true) :
    Calls Try.prog 3 #[.slice a0 len0 cap0, .slice a1 len1 cap1, .int .i64 a2, .int .i64 a3, .int .i64 a4, .int .i64 a5, .int .i64 a6, .int .i64 a7, .int .i64 a8] w fun e w' => e = .returned (.bool true) ∧ Below w.heap.size w w' := by
  have hv2 := i64_bd w2
  have hv3 := i64_bd w3
  have hv4 := i64_bd w4
  have hv5 := i64_bd w5
  have hv6 := i64_bd w6
  have hv7 := i64_bd w7
  have hv8 := i64_bd w8
  have m0 := r0.2.1
  have m0' := r0.2.2.1
  have m1 := r1.2.1
  have m1' := r1.2.2.1
  unfold maxLen at m0' m1'
  by_cases g1 : (65536 : Int) < (len0 : Int)
  · clear r0 r1
    go_enter Try.func3, Try.ntmps3
    go_wp2
    all_goals (go_ret; exact ⟨rfl, Below.refl _ _⟩)
  by_cases g2 : (65536 : Int) < (len1 : Int)
  · clear r0 r1
    go_enter Try.func3, Try.ntmps3
    go_wp2
    all_goals (go_ret; exact ⟨rfl, Below.refl _ _⟩)
  by_cases g3 : len0 = len1
  · subst g3
    by_cases g4 : a2 < 0
    · clear r0 r1
      go_enter Try.func3, Try.ntmps3
      go_wp2
      all_goals (go_ret; exact ⟨rfl, Below.refl _ _⟩)
    by_cases g5 : (len0 : Int) < a2
    · clear r0 r1
      have g5' : decide (a2 ≤ (len0 : Int)) = false := by simp; omega
      go_enter Try.func3, Try.ntmps3
      go_wp2
      all_goals (go_ret; exact ⟨rfl, Below.refl _ _⟩)
    obtain ⟨pc, rfl⟩ := Int.eq_ofNat_of_zero_le (show 0 ≤ a2 by omega)
    exact main a0 len0 cap0 z0 a1 cap1 z1 pc a3 a4 a5 a6 a7 a8 w r0 r1 (by omega) (by omega)
  · have g3' : ((len0 : Int) == (len1 : Int)) = false := by simp; omega
    clear r0 r1 g3
    go_enter Try.func3, Try.ntmps3
    go_wp2
    all_goals (go_ret; exact ⟨rfl, Below.refl _ _⟩)
end Go.Proofs.Ytgmihjpfnphoiaa.fnAddLoadNilPopUndoes
