/- The walk of FnLeaveBlockExact: the Go text returns true and writes nothing that was there. -/
import Derived.Test.YticnfohoddlolaaFmtByLx
import Derived.Test.YticnfohoddlolaaFmtLb
namespace Go.Proofs.YticnfohoddlolaaFmt.fnLeaveBlockExact
open Go.ChangeShapes Go.WideShapes Go.ChangeAt Go.RowKit
set_option linter.unusedVariables false
set_option maxRecDepth 100000

theorem closeInst_any (a v : Int) (hv : createv 38 a 0 0 = v) (h0 : 0 ≤ a) (h1 : a ≤ 255) (w : World) : Calls Tryf.prog 25 #[.int .i64 a] w fun e w' => e = .returned (.int .u32 v) ∧ w = w' := by
  have e1 : createv 38 a 0 0 = 2550136832 + a * 262144 := by unfold createv setCv setBv setAv setOpv; omega
  have e2 : bits .or .u32 2550136832 (a * 262144) = v := by
    obtain ⟨k, rfl⟩ := Int.eq_ofNat_of_zero_le h0
    have h3 : 2550136832 ||| (k * 262144) = 2550136832 + k * 262144 := by
      have := put_nat 18 26 38 k 0 (by omega) (by omega) (by omega)
      rw [Nat.mul_comm k]
      simpa using this
    have h4 := u32_or_nat 2550136832 (k * 262144) (by omega) (by omega)
    rw [← hv, e1]
    refine h4.trans ?_
    rw [h3]
    omega
  go_enter Tryf.func25, Tryf.ntmps25
  go_wp2
  go_ret
  exact ⟨rfl, rfl⟩

theorem got_of6 {w w' : World} {B0 B n : Nat} {a : Option Addr} {nx : Nat} {f : Nat → Value} {v : Value} {xs : List Value} (X : Got B0 w a 3 nx f) (h0 : w.ownsRow B 36 1 v n xs) (hk : ∀ x, a = some x → x.block < w.heap.size → v.ownBlock ≠ some x.block → w'.heap[x.block]? = w.heap[x.block]?) : Got B0 w' a 3 nx f := by
  rcases X with h | ⟨b, rfl, hB, hr⟩
  · exact .inl h
  · exact .inr ⟨b, rfl, hB, hr.of_block (hk _ rfl hr.lt (own_ne_row hr h0 (by decide)))⟩

set_option maxHeartbeats 8000000 in
theorem walk (a0 : Bool) (a1 : Int) (a2 : Option Addr) (len2 cap2 : Nat) (z2 : List ByteArray) (a3 : Option Addr) (len3 cap3 : Nat) (z3 : List ByteArray) (a4 : Int) (a5 : Option Addr) (len5 cap5 : Nat) (z5 : List Int) (a6 : Option Addr) (len6 cap6 : Nat) (z6 : List Int) (a7 : Int) (w : World) (w1 : (Lit.int .i64 a1).wf = true) (r2 : IsRow .string ByteArray.empty w a2 len2 cap2 z2) (w2 : ∀ z ∈ z2, z.size ≤ maxLen) (r3 : IsRow .string ByteArray.empty w a3 len3 cap3 z3) (w3 : ∀ z ∈ z3, z.size ≤ maxLen) (w4 : (Lit.int .i64 a4).wf = true) (r5 : IsRow (.int .u32) 0 w a5 len5 cap5 z5) (w5 : ∀ z ∈ z5, (Lit.int .u32 z).wf = true) (r6 : IsRow (.int .i64) 0 w a6 len6 cap6 z6) (w6 : ∀ z ∈ z6, (Lit.int .i64 z).wf = true) (w7 : (Lit.int .i64 a7).wf = true) :
    Calls Tryf.prog 5 #[.bool a0, .int .i64 a1, .slice a2 len2 cap2, .slice a3 len3 cap3, .int .i64 a4, .slice a5 len5 cap5, .slice a6 len6 cap6, .int .i64 a7] w fun e w' => e = .returned (.bool true) ∧ Below w.heap.size w w' := by
  have hv1 := i64_bd w1
  have hv7 := i64_bd w7
  have l2 := Lib.hid r2.1
  have l3 := Lib.hid r3.1
  have l5 := Lib.hid r5.1
  have l6 := Lib.hid r6.1
  have m5 := r5.2.1
  have m5' := r5.2.2.1
  have m6 := r6.2.1
  have m6' := r6.2.2.1
  unfold maxLen at m5' m6'
  go_enter Tryf.func5, Tryf.ntmps5
  go_wp2_with fail
  refine (byFnLeaveBlockExact_any w a0 a1 a2 len2 cap2 z2 r2 w2 a3 len3 cap3 z3 r3 w3 a4 a5 len5 cap5 (by omega) a6 len6 cap6 (by omega) a7).mono ?_
  rintro e v1 ⟨b, rfl, hb, b1⟩
  have s1 := b1.size
  cases b with
  | false =>
    go_wp2
    go_ret
    exact ⟨rfl, b1⟩
  | true =>
  replace hb := hb rfl
  replace r2 := row_below r2 b1
  replace r3 := row_below r3 b1
  replace r5 := row_below r5 b1
  replace r6 := row_below r6 b1
  have B := b1
  clear b1
  by_cases g0 : (65536 : Int) < (len2 : Int)
  · go_wp2
    go_ret
    exact ⟨rfl, B⟩
  by_cases g1 : (65536 : Int) < (len3 : Int)
  · go_wp2
    go_ret
    exact ⟨rfl, B⟩
  by_cases g2 : (65536 : Int) < (len5 : Int)
  · go_wp2
    go_ret
    exact ⟨rfl, B⟩
  by_cases g3 : (65536 : Int) < (len6 : Int)
  · go_wp2
    go_ret
    exact ⟨rfl, B⟩
  go_wp2_with fail
  refine (strBytes_any a2 len2 cap2 z2 _ r2 (by omega)).mono ?_
  rintro e v2 ⟨rfl, b2⟩
  have s_v2 := b2.size
  replace r2 := row_below r2 b2
  replace r3 := row_below r3 b2
  replace r5 := row_below r5 b2
  replace r6 := row_below r6 b2
  replace B := bel_trans B b2 B.size
  clear b2
  go_wp2_with fail
  refine (strBytes_any a3 len3 cap3 z3 _ r3 (by omega)).mono ?_
  rintro e v3 ⟨rfl, b2⟩
  have s_v3 := b2.size
  replace r2 := row_below r2 b2
  replace r3 := row_below r3 b2
  replace r5 := row_below r5 b2
  replace r6 := row_below r6 b2
  replace B := bel_trans B b2 B.size
  clear b2
  generalize tot z2 len2 = t1 at *
  generalize tot z3 len3 = t2 at *
  by_cases f0 : (1048576 : Int) < ((16 * len2 + t1 : Nat) : Int) + ((16 * len3 + t2 : Nat) : Int) + 16 * (len5 : Int) + 8 * (len6 : Int)
  · go_wp2
    go_ret
    exact ⟨rfl, B⟩
  by_cases f1 : a1 < 0
  · go_wp2
    go_ret
    exact ⟨rfl, B⟩
  by_cases f2 : 200 < a1
  · go_wp2
    go_ret
    exact ⟨rfl, B⟩
  by_cases f3 : 200 < a1 + (len2 : Int)
  · go_wp2
    go_ret
    exact ⟨rfl, B⟩
  by_cases f4 : (len6 : Int) < a1 + (len2 : Int) + (len3 : Int)
  · go_wp2
    go_ret
    exact ⟨rfl, B⟩
  go_wp2_with fail
  refine (cloneStr_any _ _ _ z2 _ r2 (by omega)).mono ?_
  rintro e v4 C
  obtain ⟨d2, rfl, x_d2, y_d2, bb⟩ := C.rng
  have s_v4 := bb.size
  replace r3 := row_below r3 bb
  replace r5 := row_below r5 bb
  replace r6 := row_below r6 bb
  replace B := bel_trans B bb B.size
  clear C bb
  go_wp2_with fail
  refine (cloneStr_any _ _ _ z3 _ r3 (by omega)).mono ?_
  rintro e v5 C
  obtain ⟨d3, rfl, x_d3, y_d3, bb⟩ := C.rng
  have s_v5 := bb.size
  replace r5 := row_below r5 bb
  replace r6 := row_below r6 bb
  replace B := bel_trans B bb B.size
  clear C bb
  go_wp2_with fail
  refine (cloneU32_any _ _ _ z5 _ r5 (by omega)).mono ?_
  rintro e v6 C
  obtain ⟨d5, rfl, x_d5, y_d5, bb⟩ := C.rng
  have s_v6 := bb.size
  replace r6 := row_below r6 bb
  replace x_d3 := got_below x_d3 bb
  replace B := bel_trans B bb B.size
  clear C bb
  go_wp2_with fail
  refine (cloneU32_any _ _ _ z5 _ (got_row x_d5 l5.out (by omega)) (by omega)).mono ?_
  rintro e v7 C
  obtain ⟨d5', rfl, x_d5', y_d5', bb⟩ := C.rng
  have s_v7 := bb.size
  replace r6 := row_below r6 bb
  replace x_d3 := got_below x_d3 bb
  replace x_d5 := got_below x_d5 bb
  replace B := bel_trans B bb B.size
  clear C bb
  go_wp2_with fail
  refine (cloneInt_any _ _ _ z6 _ r6 (by omega)).mono ?_
  rintro e v8 C
  obtain ⟨d6, rfl, x_d6, y_d6, bb⟩ := C.rng
  have s_v8 := bb.size
  replace x_d3 := got_below x_d3 bb
  replace x_d5 := got_below x_d5 bb
  replace x_d5' := got_below x_d5' bb
  replace B := bel_trans B bb B.size
  clear C bb
  clear r2 r3 r5 r6 x_d2 y_d2
  go_wp2_with fail
  refine (makeLocals_any d6 len6 len6 z6 _ (got_row x_d6 l6.out (by omega)) (by omega)).mono ?_
  rintro e v9 ⟨g, rfl, hg, GR, GF, bb⟩
  have s9 := bb.size
  have gend : g + len6 < v9.heap.size := by
    by_cases e0 : len6 = 0
    · have := GR.lt; omega
    · have := (GF (len6 - 1) (by omega)).lt; omega
  have X3 := Lib.hid (got_below x_d3 bb)
  have X5 := Lib.hid (got_below x_d5 bb)
  have X5' := Lib.hid (got_below x_d5' bb)
  have X6 := Lib.hid (got_below x_d6 bb)
  replace B := bel_trans B bb B.size
  have I := Lib.hid (show Infos v9 g len6 (fun i => z6.getD i 0) from ⟨GR, GF⟩)
  clear bb GR GF x_d3 x_d5 x_d5' x_d6
  have hmk := run_make_row' (P := Tryf.prog) 24 3 (.int .i64 0) 8 Tryf.underlying24 infoI rfl .i64 .i64 len5 (by omega) (by omega)
  go_wp2_with fail
  have gm := made_got v9 len5
  have b8 : Below v9.heap.size v9 (v9.alloc (.cells (madeCells #[.int .i64 0] len5) 3)) := (Below.refl v9.heap.size v9).alloc (Nat.le_refl _) _
  have z8 : (v9.alloc (.cells (madeCells #[.int .i64 0] len5) 3)).heap.size = v9.heap.size + 1 := by simp
  obtain ⟨cm, hcm⟩ : ∃ q, v9.heap.size = q := ⟨_, rfl⟩
  obtain ⟨u0, h8⟩ : ∃ v, v9.alloc (.cells (madeCells #[.int .i64 0] len5) 3) = v := ⟨_, rfl⟩
  rw [h8] at b8 z8 gm ⊢
  have X3a := Lib.hid (got_below X3.out b8)
  have X5a := Lib.hid (got_below X5.out b8)
  have X5a' := Lib.hid (got_below X5'.out b8)
  have X6a := Lib.hid (got_below X6.out b8)
  have I8 := Lib.hid (show Infos u0 g len6 (fun i => z6.getD i 0) from ⟨I.out.1.of_block (b8.block _ I.out.1.lt), fun i hi => (I.out.2 i hi).of_block (b8.block _ (I.out.2 i hi).lt)⟩)
  replace B := bel_trans B b8 B.size
  rw [hcm] at gm gend z8 s9 ⊢
  clear X3 X5 X5' X6 I b8 h8 hmk hcm
  refine (newFC_any a0 a1 d2 d3 d5' (some ⟨cm, 0, none⟩) (some ⟨g, 0, none⟩) len2 len3 len5 len5 len6 len2 len3 len5 len5 len6 a4 a7 _ (by omega) (by omega) (by omega) (by omega) (by omega)).mono ?_
  rintro e u1 ⟨rfl, F, T, sz, bb⟩
  have X3 := Lib.hid (got_below X3a.out bb)
  have X5 := Lib.hid (got_below X5a.out bb)
  have X6 := Lib.hid (got_below X6a.out bb)
  have x5' := got_below X5a'.out bb
  have gm' := got_below gm bb
  have I := Lib.hid (show Infos u1 g len6 (fun i => z6.getD i 0) from ⟨I8.out.1.of_block (bb.block _ I8.out.1.lt), fun i hi => (I8.out.2 i hi).of_block (bb.block _ (I8.out.2 i hi).lt)⟩)
  replace B := bel_trans B bb B.size
  obtain ⟨h, hh⟩ : ∃ h, u0.heap.size = h := ⟨_, rfl⟩
  rw [hh] at F T sz z8 ⊢
  have za : cm + 1 ≤ h := by omega
  have zb : h + 10 ≤ u1.heap.size := by omega
  have FH := Lib.hid F
  have TH := Lib.hid T
  have pw : v6.heap.size ≤ cm := by omega
  have OC := Lib.hid (own_of_got (B := v6.heap.size) x5' l5.out (by omega) (Nat.le_refl _))
  have OL := Lib.hid (own_of_got (B := v6.heap.size) gm' (by simp) (by omega) pw)
  have XW := Lib.hid x5'
  clear F T sz z8 bb X3a X5a X5a' X6a I8 hh gm gm' x5'
  have hX3 : ∀ x, d3 = some x → x.block ≠ h + 5 := fun x hx => by have := (y_d3 x hx).2; omega
  cases a0 with
  | false =>
    go_wp2_with (go_at_call 14; go_in)
    refine (leaveNo_any h a1 d2 len2 len2 d3 len3 a4 g len6 len6 a7 z3 (fun i => z6.getD i 0) (len5 : Int) v4.heap.size _ FH.out (by omega) (by omega) (by omega) (by omega) X3.out l3.out (TH.out.cell (i := 2) (by omega)) (by omega) (by omega) I.out (by omega) (by omega)).mono ?_
    rintro e u2 ⟨rfl, F, J, ST, h5⟩
    have F2 := Lib.hid F
    have J2 := Lib.hid J
    have T2 := Lib.hid (TH.out.of_block h5)
    obtain ⟨p1, p2, p3, p4, p5⟩ := ST
    have B2 := B.trans (show Below w.heap.size u1 u2 from ⟨p2, p3, p4, p1, fun q hq => p5 q (by omega) (by omega) (by omega) (by simp) (by simp) (.inl (by omega))⟩)
    have P2 := Lib.hid (got_of X5.out (w' := u2) (fun x hx hl => p5 x.block hl (by have := (y_d5 x hx).2; omega) (by have := (y_d5 x hx).2; omega) (by simp) (by simp) (.inl (by have := (y_d5 x hx).2; omega))))
    have E2 := Lib.hid (got_of X6.out (w' := u2) (fun x hx hl => p5 x.block hl (by have := (y_d6 x hx).2; omega) (by have := (y_d6 x hx).2; omega) (by simp) (by simp) (.inl (by have := (y_d6 x hx).2; omega))))
    have CC := Lib.hid (show ∀ i, i < len5 → ∃ X nX pX, u2.cell? ⟨h + 5, 0, none⟩ = some (.slice (some ⟨X, 0, none⟩) nX pX) ∧ len5 ≤ nX ∧ u2.cell? ⟨X, i, none⟩ = some (.int .u32 (z5.getD i 0)) from fun i hi => by
      obtain ⟨x, hx, -, hr⟩ := got_pos XW.out (by omega)
      refine ⟨x, len5, len5, ?_, Nat.le_refl _, ?_⟩
      · rw [← hx]; exact T2.out.cell (i := 0) (by omega)
      · have yx := y_d5' _ hx
        simp only at yx
        exact (World.cell?_of_block (a := ⟨x, i, none⟩) (p5 x hr.lt (by omega) (by omega) (by simp) (by simp) (.inl (by omega)))).trans (hr.cell (i := i) hi))
    clear F J h5 p1 p2 p3 p4 p5 FH TH I X3 X5 X6 XW OC OL B
    go_wp2_with fail
    refine (codePC_any (.int .i64 len5) _ F2.out (T2.out.cell (i := 2) (by omega))).mono ?_
    rintro e w' ⟨rfl, rfl⟩
    clear T2
    go_wp2_with fail
    go_loopw [27] (fun i wr => ∃ k m : Nat, k ≤ len5 ∧ i = .int .i64 k ∧ wr = u2.drewN m) (fun i _ => len5 - (intOf i).toNat)
    case atStart => exact ⟨0, 0, Nat.zero_le _, rfl, rfl⟩
    case round =>
      obtain ⟨k, m, hk, rfl, rfl⟩ := hrel
      by_cases hlt : k < len5
      · have hlt' : (k : Int) < (len5 : Int) := by omega
        obtain ⟨xp, hxp, -, hrp⟩ := got_pos P2.out (by omega)
        have HXP := Lib.hid hxp
        rw [hxp]
        obtain ⟨u, hu⟩ : ∃ u, z5.getD k 0 = u := ⟨_, rfl⟩
        have ep : u2.cell? ⟨xp, k, none⟩ = some (.int .u32 u) := by rw [← hu]; exact hrp.cell (i := k) hlt
        obtain ⟨X, nX, pX, cx, hnX, cc⟩ := CC.out k hlt
        have cx1 := Lib.hid cx
        have cc1 := Lib.hid (show u2.cell? ⟨X, k, none⟩ = some (.int .u32 u) by rw [cc, hu])
        have q1 := Lib.hid (show u2.cell? ⟨h + 9, 1, none⟩ = some (.pointer (some ⟨h + 5, 0, none⟩)) from F2.out.fc.cell (i := 1) (by omega))
        have hn1 : (k : Int) < (nX : Int) := by omega
        clear hxp hrp hu cx cc
        go_wp2_with fail
        first
          | (go_quiet ((first | (go_at_call 18; exact quietL (codeAt_c h X nX pX k (.int .u32 u) _ q1.out cx1.out hn1 cc1.out)) | (go_at_call 18; exact quietL2 (codeAt_c h X nX pX k (.int .u32 u) _ q1.out cx1.out hn1 cc1.out)))); go_wp2_with fail)
          | (refine (codeAt_c h X nX pX k (.int .u32 u) _ q1.out cx1.out hn1 cc1.out).mono ?_; rintro e w' ⟨rfl, rfl⟩; go_wp2_with fail)
        go_roundw
        case rel => exact ⟨k + 1, _, by omega, by go_num, rfl⟩
        case measure => simp [intOf]; omega
      · obtain rfl : len5 = k := by omega
        have F3 := Lib.hid (F2.out.drewN m)
        have J3 := Lib.hid (show Infos (u2.drewN m) g len6 _ from ⟨J2.out.1, J2.out.2⟩)
        have E3 := Lib.hid (got_of E2.out (w' := u2.drewN m) (fun _ _ _ => rfl))
        have B3 := below_drewN B2 m
        obtain ⟨u3, h3⟩ : ∃ v, u2.drewN m = v := ⟨_, rfl⟩
        rw [h3] at F3 J3 E3 B3 ⊢
        clear F2 J2 E2 B2 h3 P2 CC
        go_wp2_with fail
        go_loopw [28] (fun i wr => ∃ k m : Nat, k ≤ len6 ∧ i = .int .i64 k ∧ wr = u3.drewN m) (fun i _ => len6 - (intOf i).toNat)
        case atStart => exact ⟨0, 0, Nat.zero_le _, rfl, rfl⟩
        case round =>
          obtain ⟨k, m, hk, rfl, rfl⟩ := hrel
          by_cases hlt : k < len6
          · obtain ⟨xe, hxe, -, hre⟩ := got_pos E3.out (by omega)
            have HXE := Lib.hid hxe
            rw [hxe]
            obtain ⟨x, hx⟩ : ∃ x, z6.getD k 0 = x := ⟨_, rfl⟩
            have ce : u3.cell? ⟨xe, k, none⟩ = some (.int .i64 x) := by rw [← hx]; exact hre.cell (i := k) hlt
            have cp : u3.cell? ⟨g, k, none⟩ = some (.pointer (some ⟨g + 1 + k, 0, none⟩)) := J3.out.1.cell (i := k) hlt
            have c2 : u3.cell? ⟨g + 1 + k, 2, none⟩ = some (.int .i64 (stamp (a1 + len2) (a1 + len2 + len3) (len5 : Int) x k)) := by rw [← hx]; exact (J3.out.2 k hlt).cell (i := 2) (by omega)
            have hxb : -9223372036854775808 ≤ x ∧ x ≤ 9223372036854775807 := by
              have e : k < z6.length := by have := l6.out; omega
              have := i64_bd (w6 z6[k] (List.getElem_mem e))
              rw [← hx]
              simpa [List.getD, e] using this
            clear hxe hx hre
            have hlt' : (k : Int) < (len6 : Int) := by omega
            by_cases c1 : a1 + (len2 : Int) ≤ (k : Int)
            · by_cases c3 : (k : Int) < a1 + (len2 : Int) + (len3 : Int)
              · rw [show stamp (a1 + len2) (a1 + len2 + len3) (len5 : Int) x k = (len5 : Int) - 1 from by unfold stamp; rw [if_pos ⟨c1, c3⟩]] at c2
                go_wp2_with fail
                go_roundw
                case rel => exact ⟨k + 1, _, by omega, by go_num, rfl⟩
                case measure => simp [intOf]; omega
              · rw [show stamp (a1 + len2) (a1 + len2 + len3) (len5 : Int) x k = x from by unfold stamp; rw [if_neg (by omega)]] at c2
                have c3' : decide ((k : Int) < a1 + (len2 : Int) + (len3 : Int)) = false := by simpa using c3
                go_wp2_with fail
                go_roundw
                case rel => exact ⟨k + 1, _, by omega, by go_num, rfl⟩
                case measure => simp [intOf]; omega
            · rw [show stamp (a1 + len2) (a1 + len2 + len3) (len5 : Int) x k = x from by unfold stamp; rw [if_neg (by omega)]] at c2
              have c1' : decide (a1 + (len2 : Int) ≤ (k : Int)) = false := by simpa using c1
              go_wp2_with fail
              go_roundw
              case rel => exact ⟨k + 1, _, by omega, by go_num, rfl⟩
              case measure => simp [intOf]; omega
          · obtain rfl : len6 = k := by omega
            have F4 := Lib.hid (F3.out.drewN m)
            have B4 := below_drewN B3 m
            obtain ⟨u4, h4⟩ : ∃ v, u3.drewN m = v := ⟨_, rfl⟩
            rw [h4] at F4 B4 ⊢
            clear F3 J3 E3 B3 h4
            go_wp2_with fail
            refine (regTop_any _ F4.out).mono ?_
            rintro e w' ⟨rfl, rfl⟩
            go_wp2_with fail
            refine (noParent_any _ F4.out).mono ?_
            rintro e w' ⟨rfl, rfl⟩
            go_wp2_with fail
            refine (blockLastP_any (a1 + len2) _ F4.out (by omega) (by omega) (by omega) rfl).mono ?_
            rintro e w' ⟨rfl, kk, rfl⟩
            go_wp2_with fail
            go_ret
            exact ⟨rfl, below_drewN B4 kk⟩
  | true =>
    go_wp2_with (go_at_call 14; go_in)
    refine (leaveYes_any h a1 d2 len2 len2 d3 len3 a4 g len6 len6 a7 z3 (fun i => z6.getD i 0) v4.heap.size _ v6.heap.size len5 d5' (some ⟨cm, 0, none⟩) len5 len5 _ _ FH.out (by omega) (by omega) (by omega) (by omega) X3.out l3.out hX3 TH.out OC.out OL.out (by omega) (by omega) I.out (by omega) (by omega)).mono ?_
    rintro e u2 ⟨rfl, F, J, ST, x7, y7, p7, q7, T7, OC7, OL7⟩
    have F2 := Lib.hid F
    have J2 := Lib.hid J
    have T2 := Lib.hid T7
    rw [putAt_map (Value.int .u32)] at OC7
    rw [putAt_map (Value.int .i64)] at OL7
    obtain ⟨v, hv⟩ : ∃ v, createv 38 (a1 + len2) 0 0 = v := ⟨_, rfl⟩
    rw [hv] at OC7
    have RC := row_of_own (d := 0) OC7
    have RL := row_of_own (d := 0) OL7
    have e1 := Lib.hid (show u2.cell? ⟨x7, len5, none⟩ = some (.int .u32 v) from by
      have := row_cell RC (i := len5) (by omega)
      rw [putAt_self v l5.out (Nat.le_refl _)] at this
      exact this)
    have e2 := Lib.hid (show u2.cell? ⟨y7, len5, none⟩ = some (.int .i64 a4) from by
      have := row_cell RL (i := len5) (by omega)
      rw [putAt_self a4 (by simp) (Nat.le_refl _)] at this
      exact this)
    have RCH := Lib.hid RC
    clear RC RL OC7 OL7 T7
    obtain ⟨p1, p2, p3, p4, p5⟩ := ST
    have B2 := B.trans (show Below w.heap.size u1 u2 from ⟨p2, p3, p4, p1, fun q hq => p5 q (by omega) (by omega) (by omega) (fun e => own_ge OC.out (show q < v6.heap.size by omega) e.symm) (fun e => own_ge OL.out (show q < v6.heap.size by omega) e.symm) (.inl (by omega))⟩)
    have P2 := Lib.hid (got_of X5.out (w' := u2) (fun x hx hl => p5 x.block hl (by have := (y_d5 x hx).2; omega) (by have := (y_d5 x hx).2; omega) (fun e => own_ge OC.out (show x.block < v6.heap.size from (y_d5 x hx).2) e.symm) (fun e => own_ge OL.out (show x.block < v6.heap.size from (y_d5 x hx).2) e.symm) (.inl (by have := (y_d5 x hx).2; omega))))
    have E2 := Lib.hid (got_of6 X6.out OC.out (fun x hx hl hne => p5 x.block hl (by have := (y_d6 x hx).2; omega) (by have := (y_d6 x hx).2; omega) (fun e => hne e.symm) (by have := (y_d6 x hx).2; simp [Value.ownBlock]; omega) (.inl (by have := (y_d6 x hx).2; omega))))
    have CC := Lib.hid (show ∀ i, i < len5 → ∃ X nX pX, u2.cell? ⟨h + 5, 0, none⟩ = some (.slice (some ⟨X, 0, none⟩) nX pX) ∧ len5 ≤ nX ∧ u2.cell? ⟨X, i, none⟩ = some (.int .u32 (z5.getD i 0)) from fun i hi => ⟨x7, len5 + 1, p7, T2.out.cell (i := 0) (by omega), by omega, (row_cell RCH.out (i := i) (by omega)).trans (by rw [putAt_other v l5.out hi (show i ≠ len5 by omega)])⟩)
    have HV := Lib.hid hv
    clear F J p1 p2 p3 p4 p5 FH TH I X3 X5 X6 XW OC OL B hv RCH
    go_wp2_with fail
    refine (codePC_any (.int .i64 ((len5 : Int) + 1)) _ F2.out (T2.out.cell (i := 2) (by omega))).mono ?_
    rintro e w' ⟨rfl, rfl⟩
    have hlt5 : (len5 : Int) < (len5 : Int) + 1 := by omega
    go_wp2_with fail
    refine (codeAt_any x7 (len5 + 1) p7 len5 (.int .u32 v) _ F2.out (T2.out.cell (i := 0) (by omega)) (by omega) e1.out).mono ?_
    rintro e w' ⟨rfl, rfl⟩
    go_wp2_with fail
    refine (closeInst_any (a1 + len2) v HV.out (by omega) (by omega) _).mono ?_
    rintro e w' ⟨rfl, rfl⟩
    go_wp2_with fail
    refine (lineAt_any y7 (len5 + 1) q7 len5 (.int .i64 a4) _ F2.out (T2.out.cell (i := 1) (by omega)) (by omega) e2.out).mono ?_
    rintro e w' ⟨rfl, rfl⟩
    clear T2 e1 e2
    go_wp2_with fail
    go_loopw [27] (fun i wr => ∃ k m : Nat, k ≤ len5 ∧ i = .int .i64 k ∧ wr = u2.drewN m) (fun i _ => len5 - (intOf i).toNat)
    case atStart => exact ⟨0, 0, Nat.zero_le _, rfl, rfl⟩
    case round =>
      obtain ⟨k, m, hk, rfl, rfl⟩ := hrel
      by_cases hlt : k < len5
      · have hlt' : (k : Int) < (len5 : Int) := by omega
        obtain ⟨xp, hxp, -, hrp⟩ := got_pos P2.out (by omega)
        have HXP := Lib.hid hxp
        rw [hxp]
        obtain ⟨u, hu⟩ : ∃ u, z5.getD k 0 = u := ⟨_, rfl⟩
        have ep : u2.cell? ⟨xp, k, none⟩ = some (.int .u32 u) := by rw [← hu]; exact hrp.cell (i := k) hlt
        obtain ⟨X, nX, pX, cx, hnX, cc⟩ := CC.out k hlt
        have cx1 := Lib.hid cx
        have cc1 := Lib.hid (show u2.cell? ⟨X, k, none⟩ = some (.int .u32 u) by rw [cc, hu])
        have q1 := Lib.hid (show u2.cell? ⟨h + 9, 1, none⟩ = some (.pointer (some ⟨h + 5, 0, none⟩)) from F2.out.fc.cell (i := 1) (by omega))
        have hn1 : (k : Int) < (nX : Int) := by omega
        clear hxp hrp hu cx cc
        go_wp2_with fail
        first
          | (go_quiet ((first | (go_at_call 18; exact quietL (codeAt_c h X nX pX k (.int .u32 u) _ q1.out cx1.out hn1 cc1.out)) | (go_at_call 18; exact quietL2 (codeAt_c h X nX pX k (.int .u32 u) _ q1.out cx1.out hn1 cc1.out)))); go_wp2_with fail)
          | (refine (codeAt_c h X nX pX k (.int .u32 u) _ q1.out cx1.out hn1 cc1.out).mono ?_; rintro e w' ⟨rfl, rfl⟩; go_wp2_with fail)
        go_roundw
        case rel => exact ⟨k + 1, _, by omega, by go_num, rfl⟩
        case measure => simp [intOf]; omega
      · obtain rfl : len5 = k := by omega
        have F3 := Lib.hid (F2.out.drewN m)
        have J3 := Lib.hid (show Infos (u2.drewN m) g len6 _ from ⟨J2.out.1, J2.out.2⟩)
        have E3 := Lib.hid (got_of E2.out (w' := u2.drewN m) (fun _ _ _ => rfl))
        have B3 := below_drewN B2 m
        obtain ⟨u3, h3⟩ : ∃ v, u2.drewN m = v := ⟨_, rfl⟩
        rw [h3] at F3 J3 E3 B3 ⊢
        clear F2 J2 E2 B2 h3 P2 CC
        go_wp2_with fail
        go_loopw [28] (fun i wr => ∃ k m : Nat, k ≤ len6 ∧ i = .int .i64 k ∧ wr = u3.drewN m) (fun i _ => len6 - (intOf i).toNat)
        case atStart => exact ⟨0, 0, Nat.zero_le _, rfl, rfl⟩
        case round =>
          obtain ⟨k, m, hk, rfl, rfl⟩ := hrel
          by_cases hlt : k < len6
          · obtain ⟨xe, hxe, -, hre⟩ := got_pos E3.out (by omega)
            have HXE := Lib.hid hxe
            rw [hxe]
            obtain ⟨x, hx⟩ : ∃ x, z6.getD k 0 = x := ⟨_, rfl⟩
            have ce : u3.cell? ⟨xe, k, none⟩ = some (.int .i64 x) := by rw [← hx]; exact hre.cell (i := k) hlt
            have cp : u3.cell? ⟨g, k, none⟩ = some (.pointer (some ⟨g + 1 + k, 0, none⟩)) := J3.out.1.cell (i := k) hlt
            have c2 : u3.cell? ⟨g + 1 + k, 2, none⟩ = some (.int .i64 (stamp (a1 + len2) (a1 + len2 + len3) ((len5 : Int) + 1) x k)) := by rw [← hx]; exact (J3.out.2 k hlt).cell (i := 2) (by omega)
            have hxb : -9223372036854775808 ≤ x ∧ x ≤ 9223372036854775807 := by
              have e : k < z6.length := by have := l6.out; omega
              have := i64_bd (w6 z6[k] (List.getElem_mem e))
              rw [← hx]
              simpa [List.getD, e] using this
            clear hxe hx hre
            have hlt' : (k : Int) < (len6 : Int) := by omega
            by_cases c1 : a1 + (len2 : Int) ≤ (k : Int)
            · by_cases c3 : (k : Int) < a1 + (len2 : Int) + (len3 : Int)
              · rw [show stamp (a1 + len2) (a1 + len2 + len3) ((len5 : Int) + 1) x k = (len5 : Int) from by unfold stamp; rw [if_pos ⟨c1, c3⟩]; omega] at c2
                go_wp2_with fail
                go_roundw
                case rel => exact ⟨k + 1, _, by omega, by go_num, rfl⟩
                case measure => simp [intOf]; omega
              · rw [show stamp (a1 + len2) (a1 + len2 + len3) ((len5 : Int) + 1) x k = x from by unfold stamp; rw [if_neg (by omega)]] at c2
                have c3' : decide ((k : Int) < a1 + (len2 : Int) + (len3 : Int)) = false := by simpa using c3
                go_wp2_with fail
                go_roundw
                case rel => exact ⟨k + 1, _, by omega, by go_num, rfl⟩
                case measure => simp [intOf]; omega
            · rw [show stamp (a1 + len2) (a1 + len2 + len3) ((len5 : Int) + 1) x k = x from by unfold stamp; rw [if_neg (by omega)]] at c2
              have c1' : decide (a1 + (len2 : Int) ≤ (k : Int)) = false := by simpa using c1
              go_wp2_with fail
              go_roundw
              case rel => exact ⟨k + 1, _, by omega, by go_num, rfl⟩
              case measure => simp [intOf]; omega
          · obtain rfl : len6 = k := by omega
            have F4 := Lib.hid (F3.out.drewN m)
            have B4 := below_drewN B3 m
            obtain ⟨u4, h4⟩ : ∃ v, u3.drewN m = v := ⟨_, rfl⟩
            rw [h4] at F4 B4 ⊢
            clear F3 J3 E3 B3 h4
            go_wp2_with fail
            refine (regTop_any _ F4.out).mono ?_
            rintro e w' ⟨rfl, rfl⟩
            go_wp2_with fail
            refine (noParent_any _ F4.out).mono ?_
            rintro e w' ⟨rfl, rfl⟩
            go_wp2_with fail
            refine (blockLastP_any (a1 + len2) _ F4.out (by omega) (by omega) (by omega) rfl).mono ?_
            rintro e w' ⟨rfl, kk, rfl⟩
            go_wp2_with fail
            go_ret
            exact ⟨rfl, below_drewN B4 kk⟩
end Go.Proofs.YticnfohoddlolaaFmt.fnLeaveBlockExact
