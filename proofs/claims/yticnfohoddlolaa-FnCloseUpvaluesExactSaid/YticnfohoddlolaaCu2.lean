/- The walk of FnCloseUpvaluesExact: the Go text returns true and writes nothing that was there. -/
import Derived.Test.YticnfohoddlolaaByCe
import Derived.Test.YticnfohoddlolaaFk
namespace Go.Proofs.Yticnfohoddlolaa.fnCloseUpvaluesExact
open Go.ChangeShapes Go.WideShapes Go.ChangeAt Go.RowKit
set_option linter.unusedVariables false

theorem getD_rep {n : Nat} (i : Nat) (hi : i < n) : (List.replicate n (0 : Int)).getD i 0 = 0 := by simp [List.getD, hi]
theorem own_lt {w : World} {B T x n m : Nat} {xs : List Value} (h : w.ownsRow B T 1 (.slice (some ⟨x, 0, none⟩) n m) n xs) : x < w.heap.size := by
  obtain ⟨_, ⟨h3, _⟩ | ⟨g, cap, cur, h3, _, hh, _⟩⟩ := h
  · cases h3
  · cases h3
    exact lt_of_block hh
theorem got_rowIs {B x T n : Nat} {w : World} {f : Nat → Value} (h : Got B w (some ⟨x, 0, none⟩) T n f) : w.rowIs x T n f := by
  rcases h with ⟨h, _⟩ | ⟨b, h, _, hr⟩
  · cases h
  · cases h
    exact hr
theorem closeInst_any (a v : Int) (hv : createv 38 a 0 0 = v) (h0 : 0 ≤ a) (h1 : a ≤ 255) (w : World) : Calls Try.prog 24 #[.int .i64 a] w fun e w' => e = .returned (.int .u32 v) ∧ w = w' := by
  have e1 : createv 38 a 0 0 = 2550136832 + a * 262144 := by unfold createv setCv setBv setAv setOpv; omega
  have e2 : bits .or .u32 2550136832 (a * 262144) = v := by
    obtain ⟨k, rfl⟩ := Int.eq_ofNat_of_zero_le h0
    have h3 : 2550136832 ||| (k * 262144) = 2550136832 + k * 262144 := by
      have := put_nat 18 26 38 k 0 (by omega) (by omega) (by omega)
      rw [Nat.mul_comm k]
      simpa using this
    have h4 := u32_or_nat 2550136832 (k * 262144) (by omega) (by omega)
    rw [← hv, e1]
    refine h4.trans ?_
    rw [h3]
    omega
  go_enter Try.func24, Try.ntmps24
  go_wp2
  go_ret
  exact ⟨rfl, rfl⟩

set_option maxHeartbeats 3200000 in
theorem walk (a0 : Bool) (a1 : Int) (a2 : Option Addr) (len2 cap2 : Nat) (z2 : List ByteArray) (a3 : Int) (a4 : Option Addr) (len4 cap4 : Nat) (z4 : List Int) (w : World) (w1 : (Lit.int .i64 a1).wf = true) (r2 : IsRow .string ByteArray.empty w a2 len2 cap2 z2) (w2 : ∀ z ∈ z2, z.size ≤ maxLen) (w3 : (Lit.int .i64 a3).wf = true) (r4 : IsRow (.int .u32) 0 w a4 len4 cap4 z4) (w4 : ∀ z ∈ z4, (Lit.int .u32 z).wf = true) :
    Calls Try.prog 6 #[.bool a0, .int .i64 a1, .slice a2 len2 cap2, .int .i64 a3, .slice a4 len4 cap4] w fun e w' => e = .returned (.bool true) ∧ Below w.heap.size w w' := by
  have hv1 := i64_bd w1
  have m4 := r4.2.1
  have m4' := r4.2.2.1
  have l4 := Lib.hid r4.1
  have l2 := Lib.hid r2.1
  unfold maxLen at m4'
  go_enter Try.func6, Try.ntmps6
  go_wp2_with fail
  refine (byFnCloseUpvaluesExact_any w a0 a1 a2 len2 cap2 z2 r2 w2 a3 a4 len4 cap4 (by omega)).mono ?_
  rintro e w1 ⟨b, rfl, hb, b1⟩
  have s1 := b1.size
  cases b with
  | false =>
    go_wp2
    go_ret
    exact ⟨rfl, b1⟩
  | true =>
  replace hb := hb rfl
  replace r2 := row_below r2 b1
  replace r4 := row_below r4 b1
  have B := b1
  clear b1
  by_cases g1 : (65536 : Int) < (len2 : Int)
  · go_wp2
    go_ret
    exact ⟨rfl, B⟩
  by_cases g2 : (65536 : Int) < (len4 : Int)
  · go_wp2
    go_ret
    exact ⟨rfl, B⟩
  go_wp2_with fail
  refine (strBytes_any a2 len2 cap2 z2 _ r2 (by omega)).mono ?_
  rintro e w2 ⟨rfl, b2⟩
  have s2 := b2.size
  replace r2 := row_below r2 b2
  replace r4 := row_below r4 b2
  replace B := bel_trans B b2 B.size
  clear b2
  generalize tot z2 len2 = t at *
  by_cases g3 : (1048576 : Int) < ((16 * len2 + t : Nat) : Int) + 16 * (len4 : Int)
  · go_wp2
    go_ret
    exact ⟨rfl, B⟩
  by_cases g4 : a1 < 0
  · go_wp2
    go_ret
    exact ⟨rfl, B⟩
  by_cases g5 : 255 < a1
  · go_wp2
    go_ret
    exact ⟨rfl, B⟩
  by_cases g6 : 255 < a1 + (len2 : Int)
  · go_wp2
    go_ret
    exact ⟨rfl, B⟩
  go_wp2_with fail
  refine (cloneStr_any _ _ _ z2 _ r2 (by omega)).mono ?_
  rintro e w3 C
  obtain ⟨d2, rfl, -, -, b3⟩ := C.rng
  clear C r2
  have s3 := b3.size
  replace r4 := row_below r4 b3
  replace B := bel_trans B b3 B.size
  clear b3
  go_wp2_with fail
  refine (cloneU32_any _ _ _ z4 _ r4 (by omega)).mono ?_
  rintro e w4 C
  obtain ⟨d4, rfl, g4', rg4, b4⟩ := C.rng
  clear C r4
  have s4 := b4.size
  replace B := bel_trans B b4 B.size
  clear b4
  go_wp2_with fail
  refine (cloneU32_any _ _ _ z4 _ (got_row g4' l4.out (by omega)) (by omega)).mono ?_
  rintro e w4' C
  obtain ⟨d5, rfl, g5', rg5, b5⟩ := C.rng
  clear C
  have s4' := b5.size
  replace g4' := got_below g4' b5
  replace B := bel_trans B b5 B.size
  clear b5
  have hmk := run_make_row' (P := Try.prog) 23 3 (.int .i64 0) 8 Try.underlying23 infocloneInt rfl .i64 .i64 len4 (by omega) (by omega)
  go_wp2_with fail
  have gm := made_got w4' len4
  have bm : Below w4'.heap.size w4' (w4'.alloc (.cells (madeCells #[.int .i64 0] len4) 3)) := (Below.refl w4'.heap.size w4').alloc (Nat.le_refl _) _
  replace g4' := got_below g4' bm
  replace g5' := got_below g5' bm
  replace B := bel_trans B bm B.size
  have s5 := bm.size
  obtain ⟨w5, h5⟩ : ∃ v, w4'.alloc (.cells (madeCells #[.int .i64 0] len4) 3) = v := ⟨_, rfl⟩
  have rgm : w4'.heap.size < (w4'.alloc (.cells (madeCells #[.int .i64 0] len4) 3)).heap.size := by simp
  obtain ⟨cm, hcm⟩ : ∃ c, w4'.heap.size = c := ⟨_, rfl⟩
  have wm : w.heap.size ≤ w4'.heap.size := by omega
  rw [hcm] at gm rgm wm ⊢
  rw [h5] at gm g4' g5' B s5 rgm ⊢
  clear h5 hmk bm
  refine (newFC_any a0 a1 d2 none d5 (some ⟨cm, 0, none⟩) none len2 0 len4 len4 0 len2 0 len4 len4 0 a3 0 _ (by omega) (by omega) (by omega) (by omega) (by omega)).mono ?_
  rintro e w6 ⟨rfl, F, T, sz, b6⟩
  replace gm := got_below gm b6
  have gm_row : w6.rowIs cm 3 len4 (fun i => Value.int .i64 ((List.replicate len4 (0 : Int)).getD i 0)) := got_rowIs gm
  replace g4' := got_below g4' b6
  replace g5' := got_below g5' b6
  replace B := bel_trans B b6 B.size
  have s6 := b6.size
  clear b6
  obtain ⟨h, hh⟩ : ∃ h, w5.heap.size = h := ⟨_, rfl⟩
  rw [hh] at F T sz rgm ⊢
  have wh : w.heap.size ≤ h := by omega
  have OC := own_of_got (B := w.heap.size) g5' l4.out (by omega) (by omega)
  have OL := own_of_got (B := w.heap.size) gm (by simp) (by omega) wm
  have w4h : w4'.heap.size ≤ h := by omega
  have w4c : w4'.heap.size ≤ cm := by omega
  clear hh hcm
  have hlt2 : (len4 : Int) < (len4 : Int) + 1 := by omega
  cases a0 with
  | false =>
    have lm := (World.rowIs.congr (g := fun _ => Value.int .i64 0) gm_row (fun i hi => by rw [getD_rep i hi]))
    go_wp2_with fail
    refine (closeNo_any _ F).mono ?_
    rintro e w' ⟨rfl, rfl⟩
    go_wp2_with fail
    refine (codePC_any (.int .i64 len4) _ F (T.cell (i := 2) (by omega))).mono ?_
    rintro e w' ⟨rfl, rfl⟩
    go_wp2_with fail
    go_loopw [18] (fun i wr => ∃ k : Nat, k ≤ len4 ∧ i = .int .i64 k ∧ Below w6.heap.size w6 wr) (fun i _ => len4 - (intOf i).toNat)
    case atStart => exact ⟨0, Nat.zero_le _, rfl, Below.refl _ _⟩
    case round =>
      obtain ⟨k, hk, rfl, hbel⟩ := hrel
      by_cases hlt : k < len4
      · have hlt' : (k : Int) < (len4 : Int) := by omega
        obtain ⟨x1, rfl, hB1, hr1⟩ := got_pos g4' (by omega)
        have hr1' := rowIs_below hbel hr1.lt hr1
        have Tr := rowIs_below hbel T.lt T
        have Fr := F.below hbel
        have e1 := hr1'.cell (i := k) hlt
        obtain ⟨x2, rfl, hB2, hr2⟩ := got_pos g5' (by omega)
        have e3 := (rowIs_below hbel hr2.lt hr2).cell (i := k) hlt
        have e4 := (rowIs_below hbel lm.lt lm).cell (i := k) hlt
        clear hr2
        obtain ⟨u, hu⟩ : ∃ u, z4.getD k 0 = u := ⟨_, rfl⟩
        simp only [hu] at e1 e3 e4
        clear hu hr1 hr1'
        have q1 := Fr.fc.cell (i := 1) (by omega)
        have q2 := Tr.cell (i := 0) (by omega)
        have q3 := Tr.cell (i := 1) (by omega)
        have Q1 := Lib.hid q1
        have Q2 := Lib.hid q2
        have Q3 := Lib.hid q3
        have E3 := Lib.hid e3
        have E4 := Lib.hid e4
        clear Fr Tr q1 q2 q3 e3 e4
        have hn1 : (k : Int) < (len4 : Nat) := by omega
        go_wp2_with fail
        go_quiet ((first | (go_at_call 21; exact quietL (codeAt_c h x2 len4 len4 k (.int .u32 u) _ Q1.out Q2.out hn1 E3.out)) | (go_at_call 25; exact quietL (lineAt_c h cm len4 len4 k (.int .i64 0) _ Q1.out Q3.out hn1 E4.out))))
        go_wp2_with fail
        go_roundw
        case rel => exact ⟨k + 1, by omega, by go_num, below_drewN hbel _⟩
        case measure => simp [intOf]; omega
      · go_wp2
        go_ret
        exact ⟨rfl, bel_trans B hbel B.size⟩
  | true =>
    go_wp2_with fail
    refine (closeYes_any w.heap.size len4 len4 _ _ _ _ _ _ _ F (by omega) (by omega) (by omega) T OC OL (by omega) (Nat.le_refl _) B.size).mono ?_
    rintro e w7 ⟨rfl, -, x7, y7, p7, q7, T7, OC7, OL7, K7⟩
    have F7 := F.kept OC OL K7
    have B7 := B.trans (K7.bel OC OL (by omega) B.size)
    replace g4' := got_of g4' (fun x hx hl => K7.block x.block hl (by have := rg4 x hx; omega) (ne_rng rg5 (by have := rg4 x hx; omega)) (ne_own (by have := rg4 x hx; omega)))
    rw [nAt_self] at T7 OC7 OL7
    rw [putAt_map (Value.int .u32)] at OC7
    rw [putAt_map (Value.int .i64)] at OL7
    obtain ⟨v, hv⟩ : ∃ v, createv 38 (a1 + len2) 0 0 = v := ⟨_, rfl⟩
    rw [hv] at OC7
    have RC := row_of_own (d := 0) OC7
    have RL := row_of_own (d := 0) OL7
    have sx7 : x7 < w7.heap.size := own_lt OC7
    have sy7 : y7 < w7.heap.size := own_lt OL7
    have e1 : w7.cell? ⟨x7, len4, none⟩ = some (.int .u32 v) := by
      have := row_cell RC (i := len4) (by omega)
      rw [putAt_self v l4.out (Nat.le_refl _)] at this
      exact this
    have e2 : w7.cell? ⟨y7, len4, none⟩ = some (.int .i64 a3) := by
      have := row_cell RL (i := len4) (by omega)
      rw [putAt_self a3 (by simp) (Nat.le_refl _)] at this
      exact this
    clear B F T OC OL K7 OC7 OL7 gm gm_row g5'
    go_wp2_with fail
    refine (codePC_any (.int .i64 ((len4 : Int) + 1)) _ F7 (T7.cell (i := 2) (by omega))).mono ?_
    rintro e w' ⟨rfl, rfl⟩
    go_wp2_with fail
    refine (codeAt_any x7 (len4 + 1) p7 len4 (.int .u32 v) _ F7 (T7.cell (i := 0) (by omega)) (by omega) e1).mono ?_
    rintro e w' ⟨rfl, rfl⟩
    go_wp2_with fail
    refine (closeInst_any (a1 + len2) v hv (by omega) (by omega) _).mono ?_
    rintro e w' ⟨rfl, rfl⟩
    go_wp2_with fail
    refine (lineAt_any y7 (len4 + 1) q7 len4 (.int .i64 a3) _ F7 (T7.cell (i := 1) (by omega)) (by omega) e2).mono ?_
    rintro e w' ⟨rfl, rfl⟩
    go_wp2_with fail
    go_loopw [18] (fun i wr => ∃ k : Nat, k ≤ len4 ∧ i = .int .i64 k ∧ Below w7.heap.size w7 wr) (fun i _ => len4 - (intOf i).toNat)
    case atStart => exact ⟨0, Nat.zero_le _, rfl, Below.refl _ _⟩
    case round =>
      obtain ⟨k, hk, rfl, hbel⟩ := hrel
      by_cases hlt : k < len4
      · have hlt' : (k : Int) < (len4 : Int) := by omega
        obtain ⟨x1, rfl, hB1, hr1⟩ := got_pos g4' (by omega)
        have hr1' := rowIs_below hbel hr1.lt hr1
        have Tr := rowIs_below hbel T7.lt T7
        have Fr := F7.below hbel
        have e1 := hr1'.cell (i := k) hlt
        have e3 := (hbel.cell (p := ⟨x7, k, none⟩) sx7).trans ((row_cell RC (i := k) (by omega)).trans (by rw [putAt_other v l4.out hlt (show k ≠ len4 by omega)]))
        have e4 := (hbel.cell (p := ⟨y7, k, none⟩) sy7).trans ((row_cell RL (i := k) (by omega)).trans (by rw [putAt_other a3 (by simp) hlt (show k ≠ len4 by omega), getD_rep k hlt]))
        obtain ⟨u, hu⟩ : ∃ u, z4.getD k 0 = u := ⟨_, rfl⟩
        simp only [hu] at e1 e3 e4
        clear hu hr1 hr1'
        have q1 := Fr.fc.cell (i := 1) (by omega)
        have q2 := Tr.cell (i := 0) (by omega)
        have q3 := Tr.cell (i := 1) (by omega)
        have Q1 := Lib.hid q1
        have Q2 := Lib.hid q2
        have Q3 := Lib.hid q3
        have E3 := Lib.hid e3
        have E4 := Lib.hid e4
        clear Fr Tr q1 q2 q3 e3 e4
        have hn1 : (k : Int) < ((len4 + 1) : Nat) := by omega
        go_wp2_with fail
        go_quiet ((first | (go_at_call 21; exact quietL (codeAt_c h x7 (len4 + 1) p7 k (.int .u32 u) _ Q1.out Q2.out hn1 E3.out)) | (go_at_call 25; exact quietL (lineAt_c h y7 (len4 + 1) q7 k (.int .i64 0) _ Q1.out Q3.out hn1 E4.out))))
        go_wp2_with fail
        go_roundw
        case rel => exact ⟨k + 1, by omega, by go_num, below_drewN hbel _⟩
        case measure => simp [intOf]; omega
      · go_wp2
        go_ret
        exact ⟨rfl, bel_trans B7 hbel B7.size⟩
end Go.Proofs.Yticnfohoddlolaa.fnCloseUpvaluesExact
