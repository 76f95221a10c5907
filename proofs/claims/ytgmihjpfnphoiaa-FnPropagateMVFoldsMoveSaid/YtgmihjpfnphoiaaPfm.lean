/- The walk of FnPropagateMVFoldsMove: the Go text returns true and writes nothing that was there. -/
import Derived.Test.YtgmihjpfnphoiaaAnF
import Derived.Test.YtgmihjpfnphoiaaPmv
import Derived.Test.YtgmihjpfnphoiaaCloneU32
import Derived.Test.YtgmihjpfnphoiaaCloneInt
import Derived.Test.YtgmihjpfnphoiaaEqU32
import Derived.Test.YtgmihjpfnphoiaaEqInt
namespace Go.Proofs.Ytgmihjpfnphoiaa.fnPropagateMVFoldsMove
open Go.ChangeShapes Go.WideShapes Go.ChangeAt Go.RowKit
set_option linter.unusedVariables false

theorem nAt_lt {n pc : Nat} (hp : pc ≤ n) : pc < nAt n pc := by unfold nAt; split <;> omega
theorem nAt_le {n pc : Nat} : nAt n pc ≤ n + 1 := by unfold nAt; split <;> omega
theorem nAt_ge {n pc : Nat} : n ≤ nAt n pc := by unfold nAt; split <;> omega

set_option maxHeartbeats 800000 in
theorem main (a0 : Option Addr) (n cap0 : Nat) (z0 : List Int) (a1 : Option Addr) (cap1 : Nat) (z1 : List Int) (pc : Nat) (top a b line save reg inc : Int) (w : World) (r0 : IsRow (.int .u32) 0 w a0 n cap0 z0) (r1 : IsRow (.int .i64) 0 w a1 n cap1 z1)
    (hl : n ≤ 65536) (hpn : pc ≤ n) (ha : 0 ≤ a ∧ a ≤ 255) (hb : 0 ≤ b ∧ b ≤ 511) (ht : top ≤ a) :
    Calls Try.prog 8 #[.slice a0 n cap0, .slice a1 n cap1, .int .i64 pc, .int .i64 top, .int .i64 a, .int .i64 b, .int .i64 line, .int .i64 save, .int .i64 reg, .int .i64 inc] w fun e w' => e = .returned (.bool true) ∧ Below w.heap.size w w' := by
  have l0 := Lib.hid r0.1
  have l1 := Lib.hid r1.1
  have B := Below.refl w.heap.size w
  have hm1 := nAt_lt hpn
  have hm2 := nAt_le (n := n) (pc := pc)
  have hm3 := nAt_ge (n := n) (pc := pc)
  have HCV := Lib.hid (createv_move a b ha.1 ha.2 hb.1 hb.2)
  have hn0 : decide ((nAt n pc : Int) < (pc : Int)) = false := by simp; omega
  go_enter Try.func8, Try.ntmps8
  go_wp2_with (first | (go_at_call 29; go_in) | (go_at_call 11; go_in))
  have s0 := Nat.le_refl w.heap.size
  go_wp2_with fail
  refine (cloneU32_any _ _ _ z0 _ r0 (by omega)).mono ?_
  rintro e w1 C
  obtain ⟨d1, rfl, g1, rg1, b1⟩ := C.rng
  clear C
  have s1 := b1.size
  replace r0 := row_below r0 b1
  replace r1 := row_below r1 b1
  replace B := bel_trans B b1 B.size
  clear b1
  go_wp2_with fail
  refine (cloneInt_any _ _ _ z1 _ r1 (by omega)).mono ?_
  rintro e w2 C
  obtain ⟨d2, rfl, g2, rg2, b2⟩ := C.rng
  clear C
  have s2 := b2.size
  replace g1 := got_below g1 b2
  replace r1 := row_below r1 b2
  replace B := bel_trans B b2 B.size
  clear b2
  go_wp2_with fail
  refine (cloneU32_any _ _ _ z0 _ (got_row g1 l0.out (by omega)) (by omega)).mono ?_
  rintro e w3 C
  obtain ⟨d3, rfl, g3, rg3, b3⟩ := C.rng
  clear C
  have s3 := b3.size
  replace g1 := got_below g1 b3
  replace g2 := got_below g2 b3
  replace B := bel_trans B b3 B.size
  clear b3
  go_wp2_with fail
  refine (cloneInt_any _ _ _ z1 _ (got_row g2 l1.out (by omega)) (by omega)).mono ?_
  rintro e w4 C
  obtain ⟨d4, rfl, g4, rg4, b4⟩ := C.rng
  clear C
  have s4 := b4.size
  replace g1 := got_below g1 b4
  replace g2 := got_below g2 b4
  replace g3 := got_below g3 b4
  replace B := bel_trans B b4 B.size
  clear b4
  go_wp2_with fail
  refine (newStore_any _ _ _ _ _ _ _ _).mono ?_
  rintro e w5 ⟨rfl, h5⟩
  have t5 := st3_alloc w4 (.slice d3 n n) (.slice d4 n n) (.int .i64 pc) 47
  have s5 : w4.heap.size + 1 ≤ (w4.alloc (.cells #[.slice d3 n n, .slice d4 n n, .int .i64 pc] 47)).heap.size := by simp
  replace g1 := got_alloc g1 (.cells #[.slice d3 n n, .slice d4 n n, .int .i64 pc] 47)
  replace g2 := got_alloc g2 (.cells #[.slice d3 n n, .slice d4 n n, .int .i64 pc] 47)
  replace g3 := got_alloc g3 (.cells #[.slice d3 n n, .slice d4 n n, .int .i64 pc] 47)
  replace g4 := got_alloc g4 (.cells #[.slice d3 n n, .slice d4 n n, .int .i64 pc] 47)
  replace B := B.alloc B.size (.cells #[.slice d3 n n, .slice d4 n n, .int .i64 pc] 47)
  rw [h5] at t5 B s5 g1 g2 g3 g4
  clear h5
  obtain ⟨c5, hc5⟩ : ∃ c, w4.heap.size = c := ⟨_, rfl⟩
  have lo5 : w4.heap.size ≤ c5 := by omega
  rw [hc5] at t5 ⊢
  have HC5 := Lib.hid hc5
  clear hc5
  have hi5 : c5 < w5.heap.size := t5.lt
  have oc6 := own_of_got (B := 0) g3 l0.out (by omega) (Nat.zero_le _)
  have ol6 := own_of_got (B := 0) g4 l1.out (by omega) (Nat.zero_le _)
  go_wp2_with fail
  refine (zzAddABCF_any c5 n pc d3 d4 n n (z0.map (Value.int .u32)) (z1.map (Value.int .i64)) 0 a b 0 line _ t5 oc6 ol6 (by omega) hpn (fun _ => ⟨rfl, rfl⟩)).mono ?_
  rintro e w6 ⟨rfl, x6, y6, p6, q6, T6, OC6, OL6, fx6, fy6, sx6, sy6, K6⟩
  rw [putAt_map (Value.int .u32)] at OC6
  rw [putAt_map (Value.int .i64)] at OL6
  clear oc6 ol6
  have s6 := K6.size
  replace g1 := got_of g1 (fun x hx hl => K6.block x.block hl (by have := rg1 x hx; omega) (rng_ne rg1 rg3 (by omega) x hx) (rng_ne rg1 rg4 (by omega) x hx))
  replace g2 := got_of g2 (fun x hx hl => K6.block x.block hl (by have := rg2 x hx; omega) (rng_ne rg2 rg3 (by omega) x hx) (rng_ne rg2 rg4 (by omega) x hx))
  replace B := bel_alike B K6.size K6.os K6.tape K6.output (fun k hk => K6.block k (by have := B.size; omega) (by omega) (fun e => rng_ne (a := some ⟨k, 0, none⟩) (lo := k) (hi := k + 1) (by intro x hx; cases hx; exact ⟨Nat.le_refl _, Nat.lt_succ_self _⟩) rg3 (by omega) _ rfl e) (fun e => rng_ne (a := some ⟨k, 0, none⟩) (lo := k) (hi := k + 1) (by intro x hx; cases hx; exact ⟨Nat.le_refl _, Nat.lt_succ_self _⟩) rg4 (by omega) _ rfl e))
  have t5' := T6
  clear T6 t5
  have t5 := t5'
  clear t5'
  have RC := row_of_own (d := 0) OC6
  have RL := row_of_own (d := 0) OL6
  rw [HCV.out] at RC
  have e3 : w6.cell? ⟨x6, pc, none⟩ = some (.int .u32 (a * 262144 + b)) := by
    rw [← putAt_self (a * 262144 + b) l0.out hpn]
    exact row_cell RC hm1
  have hh1 := own_ne_row t5 OC6 (by decide)
  have hh2 := own_ne_row t5 OL6 (by decide)
  simp [Value.ownBlock] at hh1 hh2
  clear OC6 OL6 fx6 fy6 K6
  go_wp2_with fail
  have S1 := (World.rowIs_alloc w6 #[.int .i64 save] 3 (fun _ => .int .i64 save) (fun i hi => by match i, hi with | 0, _ => rfl)).alloc (.cells #[.int .i64 reg] 3)
  have S2 := World.rowIs_alloc (w6.alloc (.cells #[.int .i64 save] 3)) #[.int .i64 reg] 3 (fun _ => .int .i64 reg) (fun i hi => by match i, hi with | 0, _ => rfl)
  have bb : Below w6.heap.size w6 ((w6.alloc (.cells #[.int .i64 save] 3)).alloc (.cells #[.int .i64 reg] 3)) := ((Below.refl w6.heap.size w6).alloc (Nat.le_refl _) _).alloc (by simp) _
  obtain ⟨w7, h7⟩ : ∃ v, (w6.alloc (.cells #[.int .i64 save] 3)).alloc (.cells #[.int .i64 reg] 3) = v := ⟨_, rfl⟩
  rw [World.size_alloc] at S2
  obtain ⟨cs, hcs⟩ : ∃ c, w6.heap.size = c := ⟨_, rfl⟩
  have cs5 : c5 < cs := by have := t5.lt; omega
  have xcs : x6 ≠ cs := by omega
  have ycs : y6 ≠ cs := by omega
  replace g1 := got_below g1 bb
  replace g2 := got_below g2 bb
  replace t5 := rowIs_below bb t5.lt t5
  replace RC := row_below RC bb
  replace RL := row_below RL bb
  replace e3 := (bb.cell (p := ⟨x6, pc, none⟩) sx6).trans e3
  replace B := bel_trans B bb B.size
  have sb := bb.size
  rw [hcs] at S1 S2 ⊢
  rw [h7] at sb S1 S2 g1 g2 t5 RC RL e3 B ⊢
  have s7 : cs ≤ w7.heap.size := by have := S1.lt; omega
  have wcs : w.heap.size ≤ cs := by omega
  clear bb h7 hcs
  have S1c := S1.cell (i := 0) (Nat.zero_lt_one)
  refine (zzPmv_any c5 x6 (nAt n pc) p6 cs (cs + 1) pc a b top save inc _ (t5.cell (i := 0) (by omega)) (t5.cell (i := 2) (by omega)) (t5.frozen 2) hm1 (by omega) e3 ha hb ht S1c (S1.frozen 0) (by omega)).mono ?_
  rintro e w8 ⟨rfl, k, h8⟩
  have s8 : w7.heap.size ≤ w8.heap.size := by rw [← h8]; simp
  have hk8 : ∀ j, j ≠ c5 → j ≠ cs → w8.heap[j]? = w7.heap[j]? := by
    rw [← h8]
    intro j h1 h2
    exact (Below.heap_setCell _ _ _ _ h2).trans (Below.heap_setCell _ _ _ _ h1)
  have t8 : w8.rowIs c5 47 3 (st3 (.slice (some ⟨x6, 0, none⟩) (nAt n pc) p6) (.slice (some ⟨y6, 0, none⟩) (nAt n pc) q6) (.int .i64 pc)) := by
    rw [← h8]
    exact (st3_set2 (World.rowIs.of_block (w' := w7.drewN k) t5 rfl) _).setOther (a := ⟨cs, 0, none⟩) (show c5 ≠ cs by omega) _
  have S8 : w8.cell? ⟨cs, 0, none⟩ = some (.int .i64 b) := by
    rw [← h8]
    refine World.cell?_setCell_same' _ _ _ ?_
    rw [((World.rowIs.of_block (w' := w7.drewN k) S1 rfl).setOther (a := ⟨c5, 2, none⟩) (show cs ≠ c5 by omega) _).cell (i := 0) Nat.zero_lt_one]
    rfl
  have R8 : w8.cell? ⟨cs + 1, 0, none⟩ = some (.int .i64 reg) := (S2.of_block (hk8 _ (by omega) (by omega))).cell (i := 0) Nat.zero_lt_one
  have B8 : Below w.heap.size w w8 := by
    rw [← h8]
    exact ((below_drewN B k).setCell (p := ⟨c5, 2, none⟩) (show w.heap.size ≤ c5 by omega) _).setCell (p := ⟨cs, 0, none⟩) wcs _
  replace g1 := got_of g1 (fun x hx hl => hk8 _ (by have := rg1 x hx; omega) (by have := rg1 x hx; omega))
  replace g2 := got_of g2 (fun x hx hl => hk8 _ (by have := rg2 x hx; omega) (by have := rg2 x hx; omega))
  replace RC := row_keep RC s8 (hk8 _ hh1 xcs)
  replace RL := row_keep RL s8 (hk8 _ hh2 ycs)
  clear B S1 S2 S1c h8 hk8 t5 e3

  go_wp2_with fail
  refine (getPc_any c5 (.int .i64 pc) _ (t8.cell (i := 2) (by omega))).mono ?_
  rintro e w' ⟨rfl, rfl⟩
  go_wp2_with fail
  refine (getCodes_any c5 (.slice (some ⟨x6, 0, none⟩) (nAt n pc) p6) _ (t8.cell (i := 0) (by omega))).mono ?_
  rintro e w' ⟨rfl, rfl⟩
  go_wp2_with fail
  refine (getLines_any c5 (.slice (some ⟨y6, 0, none⟩) (nAt n pc) q6) _ (t8.cell (i := 1) (by omega))).mono ?_
  rintro e w' ⟨rfl, rfl⟩
  go_wp2_with fail
  go_loopw [26] (fun i wr => ∃ k : Nat, k ≤ pc ∧ i = .int .i64 k ∧ Below w8.heap.size w8 wr) (fun i _ => n - (intOf i).toNat)
  case atStart => exact ⟨0, Nat.zero_le _, rfl, Below.refl _ _⟩
  case round =>
    obtain ⟨k, hk, rfl, hbel⟩ := hrel
    by_cases hlt : k < pc
    · have hlt' : (k : Int) < (pc : Int) := by omega
      have hlt1 : (k : Int) < (n : Int) := by omega
      have hlt2 : (k : Int) < (nAt n pc : Int) := by omega
      obtain ⟨x1, o1, hx1, hb1, hc1⟩ := row_some (got_row g1 l0.out (by omega)) (by omega)
      obtain ⟨x2, o2, hx2, hb2, hc2⟩ := row_some (got_row g2 l1.out (by omega)) (by omega)
      have HX1 := Lib.hid hx1
      have HX2 := Lib.hid hx2
      rw [hx1, hx2]
      clear hx1 hx2
      obtain ⟨u, hue⟩ : ∃ u, z0.getD k 0 = u := ⟨_, rfl⟩
      obtain ⟨v, hve⟩ : ∃ v, z1.getD k 0 = v := ⟨_, rfl⟩
      have e1 : wr.cell? ⟨x1, o1 + k, none⟩ = some (.int .u32 u) := by rw [← hue]; exact (hbel.cell (p := ⟨x1, o1 + k, none⟩) hb1).trans (hc1 k (by omega))
      have e2 : wr.cell? ⟨x2, o2 + k, none⟩ = some (.int .i64 v) := by rw [← hve]; exact (hbel.cell (p := ⟨x2, o2 + k, none⟩) hb2).trans (hc2 k (by omega))
      have e3 : wr.cell? ⟨x6, k, none⟩ = some (.int .u32 u) := by
        rw [← hue, ← putAt_other (a * 262144 + b) l0.out (show k < n by omega) (show k ≠ pc by omega)]
        exact (hbel.cell (p := ⟨x6, k, none⟩) (by show x6 < w8.heap.size; omega)).trans (row_cell RC (by omega))
      have e4 : wr.cell? ⟨y6, k, none⟩ = some (.int .i64 v) := by
        rw [← hve, ← putAt_other line l1.out (show k < n by omega) (show k ≠ pc by omega)]
        exact (hbel.cell (p := ⟨y6, k, none⟩) (by show y6 < w8.heap.size; omega)).trans (row_cell RL (by omega))
      clear hue hve hc1 hc2
      go_wp2
      go_quiet (fail)
      go_wp2
      go_roundw
      case rel => exact ⟨k + 1, by omega, by go_num, below_drewN hbel _⟩
      case measure => simp [intOf]; omega
    · go_wp2
      go_ret
      exact ⟨rfl, bel_trans B8 hbel B8.size⟩

set_option maxHeartbeats 4000000 in
theorem walk (a0 : Option Addr) (len0 cap0 : Nat) (z0 : List Int) (a1 : Option Addr) (len1 cap1 : Nat) (z1 : List Int) (a2 : Int) (a3 : Int) (a4 : Int) (a5 : Int) (a6 : Int) (a7 : Int) (a8 : Int) (a9 : Int) (w : World) (r0 : IsRow (.int .u32) 0 w a0 len0 cap0 z0) (w0 : ∀ z ∈ z0, (Lit.int .u32 z).wf = true) (r1 : IsRow (.int .i64) 0 w a1 len1 cap1 z1) (w1 : ∀ z ∈ z1, (Lit.int .i64 z).wf = true) (w2 : (Lit.int .i64 a2).wf = true) (w3 : (Lit.int .i64 a3).wf = true) (w4 : (Lit.int .i64 a4).wf = true) (w5 : (Lit.int .i64 a5).wf = true) (w6 : (Lit.int .i64 a6).wf = true) (w7 : (Lit.int .i64 a7).wf = true) (w8 : (Lit.int .i64 a8).wf = true) (w9 : (Lit.int .i64 a9).wf = true) :
    Calls Try.prog 8 #[.slice a0 len0 cap0, .slice a1 len1 cap1, .int .i64 a2, .int .i64 a3, .int .i64 a4, .int .i64 a5, .int .i64 a6, .int .i64 a7, .int .i64 a8, .int .i64 a9] w fun e w' => e = .returned (.bool true) ∧ Below w.heap.size w w' := by
  have hv2 := i64_bd w2
  have hv3 := i64_bd w3
  have hv4 := i64_bd w4
  have hv5 := i64_bd w5
  have hv6 := i64_bd w6
  have hv7 := i64_bd w7
  have hv8 := i64_bd w8
  have hv9 := i64_bd w9
  have m0 := r0.2.1
  have m0' := r0.2.2.1
  have m1 := r1.2.1
  have m1' := r1.2.2.1
  unfold maxLen at m0' m1'
  by_cases g1 : (65536 : Int) < (len0 : Int)
  · clear r0 r1
    go_enter Try.func8, Try.ntmps8
    go_wp2
    all_goals (go_ret; exact ⟨rfl, Below.refl _ _⟩)
  by_cases g2 : (65536 : Int) < (len1 : Int)
  · clear r0 r1
    go_enter Try.func8, Try.ntmps8
    go_wp2
    all_goals (go_ret; exact ⟨rfl, Below.refl _ _⟩)
  by_cases g3 : len0 = len1
  · subst g3
    by_cases g4 : a2 < 0
    · clear r0 r1
      go_enter Try.func8, Try.ntmps8
      go_wp2
      all_goals (go_ret; exact ⟨rfl, Below.refl _ _⟩)
    by_cases g5 : (len0 : Int) < a2
    · clear r0 r1
      have g5' : decide (a2 ≤ (len0 : Int)) = false := by simp; omega
      go_enter Try.func8, Try.ntmps8
      go_wp2
      all_goals (go_ret; exact ⟨rfl, Below.refl _ _⟩)
    by_cases g6 : a4 < 0
    · clear r0 r1
      go_enter Try.func8, Try.ntmps8
      go_wp2_with (first | (go_at_call 29; go_in) | (go_at_call 11; go_in))
      all_goals (go_ret; exact ⟨rfl, Below.refl _ _⟩)
    by_cases g7 : (255 : Int) < a4
    · clear r0 r1
      go_enter Try.func8, Try.ntmps8
      go_wp2_with (first | (go_at_call 29; go_in) | (go_at_call 11; go_in))
      all_goals (go_ret; exact ⟨rfl, Below.refl _ _⟩)
    by_cases g8 : a5 < 0
    · clear r0 r1
      go_enter Try.func8, Try.ntmps8
      go_wp2_with (first | (go_at_call 29; go_in) | (go_at_call 11; go_in))
      all_goals (go_ret; exact ⟨rfl, Below.refl _ _⟩)
    by_cases g9 : (511 : Int) < a5
    · clear r0 r1
      go_enter Try.func8, Try.ntmps8
      go_wp2_with (first | (go_at_call 29; go_in) | (go_at_call 11; go_in))
      all_goals (go_ret; exact ⟨rfl, Below.refl _ _⟩)
    by_cases g10 : a4 < a3
    · clear r0 r1
      go_enter Try.func8, Try.ntmps8
      go_wp2_with (first | (go_at_call 29; go_in) | (go_at_call 11; go_in))
      all_goals (go_ret; exact ⟨rfl, Below.refl _ _⟩)
    obtain ⟨pc, rfl⟩ := Int.eq_ofNat_of_zero_le (show 0 ≤ a2 by omega)
    exact main a0 len0 cap0 z0 a1 cap1 z1 pc a3 a4 a5 a6 a7 a8 a9 w r0 r1 (by omega) (by omega) (by omega) (by omega) (by omega)
  · have g3' : ((len0 : Int) == (len1 : Int)) = false := by simp; omega
    clear r0 r1 g3
    go_enter Try.func8, Try.ntmps8
    go_wp2
    all_goals (go_ret; exact ⟨rfl, Below.refl _ _⟩)
end Go.Proofs.Ytgmihjpfnphoiaa.fnPropagateMVFoldsMove
