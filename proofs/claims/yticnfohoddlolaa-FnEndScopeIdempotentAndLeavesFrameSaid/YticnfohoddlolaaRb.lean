/- The walk of FnEndScopeIdempotentAndLeavesFrame: the Go text returns true and writes nothing that was there. -/
import Derived.Test.YticnfohoddlolaaByEi
import Derived.Test.YticnfohoddlolaaEl
namespace Go.Proofs.Yticnfohoddlolaa.fnEndScopeIdempotentAndLeavesFrame
open Go.ChangeShapes Go.WideShapes Go.ChangeAt Go.RowKit
set_option linter.unusedVariables false

set_option maxRecDepth 100000 in
set_option maxHeartbeats 4000000 in
theorem walk (a0 : Int) (a1 : Option Addr) (len1 cap1 : Nat) (z1 : List ByteArray) (a2 : Option Addr) (len2 cap2 : Nat) (z2 : List ByteArray) (a3 : Int) (a4 : Option Addr) (len4 cap4 : Nat) (z4 : List Int) (a5 : Int) (w : World) (w0 : (Lit.int .i64 a0).wf = true) (r1 : IsRow .string ByteArray.empty w a1 len1 cap1 z1) (w1 : ∀ z ∈ z1, z.size ≤ maxLen) (r2 : IsRow .string ByteArray.empty w a2 len2 cap2 z2) (w2 : ∀ z ∈ z2, z.size ≤ maxLen) (w3 : (Lit.int .i64 a3).wf = true) (r4 : IsRow (.int .i64) 0 w a4 len4 cap4 z4) (w4 : ∀ z ∈ z4, (Lit.int .i64 z).wf = true) (w5 : (Lit.int .i64 a5).wf = true) :
    Calls Try.prog 3 #[.int .i64 a0, .slice a1 len1 cap1, .slice a2 len2 cap2, .int .i64 a3, .slice a4 len4 cap4, .int .i64 a5] w fun e w' => e = .returned (.bool true) ∧ Below w.heap.size w w' := by
  have hv0 := i64_bd w0
  have hv3 := i64_bd w3
  have hv5 := i64_bd w5
  have l1 := Lib.hid r1.1
  have l2 := Lib.hid r2.1
  have l4 := Lib.hid r4.1
  have m4 := r4.2.1
  have m4' := r4.2.2.1
  unfold maxLen at m4'
  go_enter Try.func3, Try.ntmps3
  go_wp2_with fail
  refine (byFnEndScopeIdempotentAndLeavesFrame_any w a0 a1 len1 cap1 z1 r1 w1 a2 len2 cap2 z2 r2 w2 a3 a4 len4 cap4 (by omega) a5).mono ?_
  rintro e v1 ⟨b, rfl, hb, b1⟩
  have s1 := b1.size
  cases b with
  | false =>
    go_wp2
    go_ret
    exact ⟨rfl, b1⟩
  | true =>
  replace hb := hb rfl
  replace r1 := row_below r1 b1
  replace r2 := row_below r2 b1
  replace r4 := row_below r4 b1
  have B := b1
  clear b1
  by_cases g0 : (65536 : Int) < (len1 : Int)
  · go_wp2
    go_ret
    exact ⟨rfl, B⟩
  by_cases g1 : (65536 : Int) < (len2 : Int)
  · go_wp2
    go_ret
    exact ⟨rfl, B⟩
  by_cases g2 : (65536 : Int) < (len4 : Int)
  · go_wp2
    go_ret
    exact ⟨rfl, B⟩
  by_cases g3 : a3 < 0
  · go_wp2
    go_ret
    exact ⟨rfl, B⟩
  by_cases g4 : 65536 < a3
  · go_wp2
    go_ret
    exact ⟨rfl, B⟩
  go_wp2_with fail
  refine (strBytes_any a1 len1 cap1 z1 _ r1 (by omega)).mono ?_
  rintro e v2 ⟨rfl, b2⟩
  have s2 := b2.size
  replace r1 := row_below r1 b2
  replace r2 := row_below r2 b2
  replace r4 := row_below r4 b2
  replace B := bel_trans B b2 B.size
  clear b2
  go_wp2_with fail
  refine (strBytes_any a2 len2 cap2 z2 _ r2 (by omega)).mono ?_
  rintro e v3 ⟨rfl, b3⟩
  have s3 := b3.size
  replace r1 := row_below r1 b3
  replace r2 := row_below r2 b3
  replace r4 := row_below r4 b3
  replace B := bel_trans B b3 B.size
  clear b3
  generalize tot z1 len1 = t1 at *
  generalize tot z2 len2 = t2 at *
  by_cases g6 : (1048576 : Int) < ((16 * len1 + t1 : Nat) : Int) + ((16 * len2 + t2 : Nat) : Int) + 8 * (len4 : Int) + 16 * a3
  · go_wp2
    go_ret
    exact ⟨rfl, B⟩
  by_cases g7 : a0 < 0
  · go_wp2
    go_ret
    exact ⟨rfl, B⟩
  by_cases g8 : 65536 < a0
  · go_wp2
    go_ret
    exact ⟨rfl, B⟩
  by_cases g9 : (len4 : Int) < a0 + (len1 : Int) + (len2 : Int)
  · go_wp2
    go_ret
    exact ⟨rfl, B⟩
  obtain ⟨pc, rfl⟩ := Int.eq_ofNat_of_zero_le (show 0 ≤ a3 by omega)
  go_wp2_with fail
  refine (cloneStr_any _ _ _ z1 _ r1 (by omega)).mono ?_
  rintro e v4 C
  obtain ⟨d1, rfl, -, -, b4⟩ := C.rng
  have s4 := b4.size
  replace r2 := row_below r2 b4
  replace r4 := row_below r4 b4
  replace B := bel_trans B b4 B.size
  clear C r1 b4
  go_wp2_with fail
  refine (cloneStr_any _ _ _ z2 _ r2 (by omega)).mono ?_
  rintro e v5 C
  obtain ⟨d2, rfl, x2, y2, b5⟩ := C.rng
  have s5 := b5.size
  replace r4 := row_below r4 b5
  replace B := bel_trans B b5 B.size
  clear C r2 b5
  go_wp2_with fail
  refine (cloneInt_any _ _ _ z4 _ r4 (by omega)).mono ?_
  rintro e v6 C
  obtain ⟨d4, rfl, x4, y4, b6⟩ := C.rng
  have s6 := b6.size
  replace x2 := got_below x2 b6
  replace B := bel_trans B b6 B.size
  clear C r4 b6
  go_wp2_with fail
  refine (makeLocals_any d4 len4 len4 z4 _ (got_row x4 l4.out (by omega)) (by omega)).mono ?_
  rintro e v7 ⟨g, rfl, hg, GR, GF, b7⟩
  have s7 := b7.size
  have gend : g + len4 < v7.heap.size := by
    by_cases e0 : len4 = 0
    · have := GR.lt; omega
    · have := (GF (len4 - 1) (by omega)).lt; omega
  replace x2 := got_below x2 b7
  replace x4 := got_below x4 b7
  replace B := bel_trans B b7 B.size
  have I := Lib.hid (show Infos v7 g len4 (fun i => z4.getD i 0) from ⟨GR, GF⟩)
  clear b7 GR GF
  have X2 := Lib.hid x2
  have X4 := Lib.hid x4
  clear x2 x4
  have hmk1 := run_make_row' (P := Try.prog) 30 41 (.int .u32 0) 4 Try.underlying30 infoU rfl .i64 .i64 pc (by omega) (by omega)
  have hmk2 := run_make_row' (P := Try.prog) 23 3 (.int .i64 0) 8 Try.underlying23 infoI rfl .i64 .i64 pc (by omega) (by omega)
  go_wp2_with fail
  have b8 : Below v7.heap.size v7 ((v7.alloc (.cells (madeCells #[.int .u32 0] pc) 41)).alloc (.cells (madeCells #[.int .i64 0] pc) 3)) := ((Below.refl v7.heap.size v7).alloc (Nat.le_refl _) _).alloc (by simp) _
  have z8 : ((v7.alloc (.cells (madeCells #[.int .u32 0] pc) 41)).alloc (.cells (madeCells #[.int .i64 0] pc) 3)).heap.size = v7.heap.size + 2 := by simp
  obtain ⟨q7, hq7⟩ : ∃ q, v7.heap.size = q := ⟨_, rfl⟩
  obtain ⟨v8, h8⟩ : ∃ v, (v7.alloc (.cells (madeCells #[.int .u32 0] pc) 41)).alloc (.cells (madeCells #[.int .i64 0] pc) 3) = v := ⟨_, rfl⟩
  rw [h8] at b8 z8 ⊢
  have X2' := Lib.hid (got_below X2.out b8)
  have X4' := Lib.hid (got_below X4.out b8)
  have I8 := Lib.hid (show Infos v8 g len4 (fun i => z4.getD i 0) from ⟨I.out.1.of_block (b8.block _ I.out.1.lt), fun i hi => (I.out.2 i hi).of_block (b8.block _ (I.out.2 i hi).lt)⟩)
  replace B := bel_trans B b8 B.size
  rw [hq7] at gend z8 s7 ⊢
  clear X2 X4 I b8 h8 hmk1 hmk2 hq7
  refine (newFC_any false a0 d1 d2 (some ⟨q7, 0, none⟩) (some ⟨q7 + 1, 0, none⟩) (some ⟨g, 0, none⟩) len1 len2 pc pc len4 len1 len2 pc pc len4 0 a5 _ (by omega) (by omega) (by omega) (by omega) (by omega)).mono ?_
  rintro e v9 ⟨rfl, F, T, sz, b9⟩
  have X2 := Lib.hid (got_below X2'.out b9)
  have X4 := Lib.hid (got_below X4'.out b9)
  have I := Lib.hid (show Infos v9 g len4 (fun i => z4.getD i 0) from ⟨I8.out.1.of_block (b9.block _ I8.out.1.lt), fun i hi => (I8.out.2 i hi).of_block (b9.block _ (I8.out.2 i hi).lt)⟩)
  replace B := bel_trans B b9 B.size
  obtain ⟨h, hh⟩ : ∃ h, v8.heap.size = h := ⟨_, rfl⟩
  rw [hh] at F T sz z8 ⊢
  have za : q7 + 2 ≤ h := by omega
  have zb : h + 10 ≤ v9.heap.size := by omega
  clear z8 sz
  have FH := Lib.hid F
  have PC := Lib.hid (show v9.cell? ⟨h + 5, 2, none⟩ = some (.int .i64 pc) from T.cell (i := 2) (by omega))
  clear F T b9 X2' X4' I8 hh
  go_wp2_with fail
  refine (zzEnd_any h false a0 d1 len1 len1 d2 len2 len2 0 g len4 len4 a5 z2 (fun i => z4.getD i 0) pc _ FH.out (by omega) (by omega) (by omega) (by omega) (got_row X2.out l2.out (by omega)) PC.out (by omega) (by omega) I.out (by omega) (by omega)).mono ?_
  rintro e u1 ⟨rfl, J, sj, oj, tj, pj, kj⟩
  have B1 := B.trans (show Below w.heap.size v9 u1 from ⟨oj, tj, pj, sj, fun k hk => kj k (by omega) (.inl (by omega))⟩)
  have J1 := Lib.hid J
  have X4a := Lib.hid (got_of X4.out (w' := u1) (fun x hx hl => kj x.block hl (.inl (by have := (y4 x hx).2; omega))))
  have F1 := Lib.hid (FH.out.keep (w' := u1) fun c ha hb _ => kj c (by omega) (.inr (by omega)))
  have P1 := Lib.hid ((World.cell?_of_block (a := ⟨h + 5, 2, none⟩) (kj (h + 5) (by omega) (.inr (by omega)))).trans PC.out)
  have X2a := Lib.hid (got_of X2.out (w' := u1) (fun x hx hl => kj x.block hl (.inl (by have := (y2 x hx).2; omega))))
  clear J oj tj pj kj X2 X4 I FH PC B X4a
  have hmk3 := run_make_row' (P := Try.prog) 23 3 (.int .i64 0) 8 Try.underlying23 infoI rfl .i64 .i64 len4 (by omega) (by omega)
  go_wp2_with fail
  have M := World.rowIs_made u1 (Value.int .i64 0) len4 3
  have bm : Below u1.heap.size u1 (u1.alloc (.cells (madeCells #[.int .i64 0] len4) 3)) := (Below.refl u1.heap.size u1).alloc (Nat.le_refl _) _
  have zm : (u1.alloc (.cells (madeCells #[.int .i64 0] len4) 3)).heap.size = u1.heap.size + 1 := by simp
  obtain ⟨u2, h2⟩ : ∃ v, u1.alloc (.cells (madeCells #[.int .i64 0] len4) 3) = v := ⟨_, rfl⟩
  have F2 := Lib.hid (F1.out.below (w' := u1.alloc (.cells (madeCells #[.int .i64 0] len4) 3)) bm)
  have P2 := Lib.hid (keepC bm P1.out)
  have X2b := Lib.hid (got_below X2a.out bm)
  have J2 := Lib.hid (show Infos (u1.alloc (.cells (madeCells #[.int .i64 0] len4) 3)) g len4 (fun i => stamp (a0 + len1) (a0 + len1 + len2) pc (z4.getD i 0) i) from ⟨J1.out.1.of_block (bm.block _ J1.out.1.lt), fun i hi => (J1.out.2 i hi).of_block (bm.block _ (J1.out.2 i hi).lt)⟩)
  replace B1 := bel_trans B1 bm B1.size
  have hF := F1.out.fc.lt
  obtain ⟨N, hN⟩ : ∃ N, u1.heap.size = N := ⟨_, rfl⟩
  rw [hN] at M zm hF ⊢
  rw [h2] at M zm F2 P2 X2b J2 B1 ⊢
  have zN : N + 1 ≤ u2.heap.size := by omega
  have wN : w.heap.size ≤ N := by omega
  clear F1 P1 X2a J1 bm h2 zm hmk3 hN
  go_loopw [20] (fun i wr => ∃ k : Nat, k ≤ len4 ∧ i = .int .i64 k ∧ Hid (wr.rowIs N 3 len4 (fun j => .int .i64 (if j < k then stamp (a0 + len1) (a0 + len1 + len2) pc (z4.getD j 0) j else 0))) ∧ Hid (Below N u2 wr) ∧ Below w.heap.size w wr) (fun i _ => len4 - (intOf i).toNat)
  case atStart => exact ⟨0, Nat.zero_le _, rfl, Lib.hid (M.congr fun i _ => by simp), Lib.hid (Below.refl _ _), B1⟩
  case round =>
    obtain ⟨k, hk, rfl, RK, bN, BK⟩ := hrel
    by_cases hlt : k < len4
    · obtain ⟨x, hx⟩ : ∃ x, stamp (a0 + len1) (a0 + len1 + len2) pc (z4.getD k 0) k = x := ⟨_, rfl⟩
      have cp : wr.cell? ⟨g, k, none⟩ = some (.pointer (some ⟨g + 1 + k, 0, none⟩)) := (bN.out.cell (p := ⟨g, k, none⟩) (show g < N by omega)).trans (J2.out.1.cell (i := k) hlt)
      have c2 : wr.cell? ⟨g + 1 + k, 2, none⟩ = some (.int .i64 x) := by rw [← hx]; exact (bN.out.cell (p := ⟨g + 1 + k, 2, none⟩) (show g + 1 + k < N by omega)).trans ((J2.out.2 k hlt).cell (i := 2) (by omega))
      have HX := Lib.hid hx
      clear hx
      have hlt' : (k : Int) < (len4 : Int) := by omega
      have hd := RK.out.cell (i := k) hlt
      have hf := RK.out.frozen k
      go_wp2_with fail
      go_roundw
      case rel =>
        refine ⟨k + 1, by omega, by go_num, Lib.hid ((RK.out.set k _).congr fun i hi => ?_), Lib.hid (bN.out.setCell (p := ⟨N, k, none⟩) (Nat.le_refl _) _), BK.setCell (p := ⟨N, k, none⟩) wN _⟩
        have hv := HX.out
        by_cases e : i = k
        · subst e
          rw [if_pos rfl, if_pos (by omega), hv]
        · rw [if_neg e]
          by_cases l : i < k
          · rw [if_pos l, if_pos (by omega)]
          · rw [if_neg l, if_neg (by omega)]
      case measure => simp [intOf]; omega
    · obtain rfl : len4 = k := by omega
      have F3 := Lib.hid (F2.out.keep (w' := wr) fun c ha hb _ => bN.out.block c (by omega))
      have P3 := Lib.hid ((bN.out.cell (p := ⟨h + 5, 2, none⟩) (show h + 5 < N by omega)).trans P2.out)
      have X3 := Lib.hid (got_of X2b.out (w' := wr) (fun x hx hl => bN.out.block x.block (by have := (y2 x hx).2; omega)))
      have J3 := Lib.hid (show Infos wr g len4 (fun i => stamp (a0 + len1) (a0 + len1 + len2) pc (z4.getD i 0) i) from ⟨J2.out.1.of_block (bN.out.block _ (by omega)), fun i hi => (J2.out.2 i hi).of_block (bN.out.block _ (by omega))⟩)
      have R3 := Lib.hid (RK.out.congr (g := fun j => .int .i64 (stamp (a0 + len1) (a0 + len1 + len2) pc (z4.getD j 0) j)) fun i hi => by simp [hi])
      have zW := bN.out.size
      clear F2 P2 X2b J2 RK bN B1 M
      go_wp2_with fail
      refine (zzEnd_any h false a0 d1 len1 len1 d2 len2 len2 0 g len4 len4 a5 z2 (fun i => stamp (a0 + len1) (a0 + len1 + len2) pc (z4.getD i 0) i) pc _ F3.out (by omega) (by omega) (by omega) (by omega) (got_row X3.out l2.out (by omega)) P3.out (by omega) (by omega) J3.out (by omega) (by omega)).mono ?_
      rintro e u4 ⟨rfl, J, sj, oj, tj, pj, kj⟩
      have B4 := BK.trans (show Below w.heap.size wr u4 from ⟨oj, tj, pj, sj, fun k hk => kj k (by omega) (.inl (by omega))⟩)
      have J4 := Lib.hid J
      have F4 := Lib.hid (F3.out.keep (w' := u4) fun c ha hb _ => kj c (by omega) (.inr (by omega)))
      have P4 := Lib.hid ((World.cell?_of_block (a := ⟨h + 5, 2, none⟩) (kj (h + 5) (by omega) (.inr (by omega)))).trans P3.out)
      have R4 := Lib.hid (R3.out.of_block (kj N (by omega) (.inr (by omega))))
      clear J oj tj pj kj F3 P3 X3 J3 R3 BK
      go_wp2_with fail
      go_loopw [21] (fun i wr => ∃ k m : Nat, k ≤ len4 ∧ i = .int .i64 k ∧ wr = u4.drewN m) (fun i _ => len4 - (intOf i).toNat)
      case atStart => exact ⟨0, 0, Nat.zero_le _, rfl, rfl⟩
      case round =>
        obtain ⟨k, m, hk, rfl, rfl⟩ := hrel
        by_cases hlt : k < len4
        · obtain ⟨x, hx⟩ : ∃ x, stamp (a0 + len1) (a0 + len1 + len2) pc (z4.getD k 0) k = x := ⟨_, rfl⟩
          have cp : u4.cell? ⟨g, k, none⟩ = some (.pointer (some ⟨g + 1 + k, 0, none⟩)) := J4.out.1.cell (i := k) hlt
          have c2 : u4.cell? ⟨g + 1 + k, 2, none⟩ = some (.int .i64 x) := by
            have e : stamp (a0 + len1) (a0 + len1 + len2) pc (stamp (a0 + len1) (a0 + len1 + len2) pc (z4.getD k 0) k) k = x := by
              rw [← hx]
              unfold stamp
              split <;> rfl
            rw [← e]
            exact (J4.out.2 k hlt).cell (i := 2) (by omega)
          have c3 : u4.cell? ⟨N, k, none⟩ = some (.int .i64 x) := by rw [← hx]; exact R4.out.cell (i := k) hlt
          clear hx
          have hlt' : (k : Int) < (len4 : Int) := by omega
          go_wp2_with fail
          try (go_quiet (fail); go_wp2_with fail)
          go_roundw
          case rel => exact ⟨k + 1, _, by omega, by go_num, rfl⟩
          case measure => simp [intOf]; omega
        · obtain rfl : len4 = k := by omega
          have F5 := Lib.hid (F4.out.drewN m)
          have P5 := Lib.hid (show (u4.drewN m).cell? ⟨h + 5, 2, none⟩ = some (.int .i64 pc) from P4.out)
          have B5 := below_drewN B4 m
          obtain ⟨u5, h5⟩ : ∃ v, u4.drewN m = v := ⟨_, rfl⟩
          rw [h5] at F5 P5 B5 ⊢
          clear F4 P4 B4 h5
          go_wp2_with fail
          refine (codePC_any (.int .i64 pc) _ F5.out P5.out).mono ?_
          rintro e w' ⟨rfl, rfl⟩
          go_wp2_with fail
          refine (regTop_any _ F5.out).mono ?_
          rintro e w' ⟨rfl, rfl⟩
          go_wp2_with fail
          refine (hasParent_any _ F5.out).mono ?_
          rintro e w' ⟨rfl, rfl⟩
          go_wp2_with fail
          refine (blockLast_any (a0 + len1 + len2) _ F5.out (by omega) (by omega) (by omega) (by omega) rfl).mono ?_
          rintro e w' ⟨rfl, kk, rfl⟩
          go_wp2_with fail
          go_ret
          exact ⟨rfl, below_drewN B5 kk⟩
end Go.Proofs.Yticnfohoddlolaa.fnEndScopeIdempotentAndLeavesFrame
