/- The walk of FnCheckUnresolvedGotoSkipsOuterBlocks: the Go text returns true and writes nothing that was there. -/
import Derived.Test.YtpkolfmdockdnaaFmtEb
import Derived.Test.YtpkolfmdockdnaaFmtByCk
namespace Go.Proofs.YtpkolfmdockdnaaFmt.fnCheckUnresolvedGotoSkipsOuterBlocks
open Go.ChangeShapes Go.WideShapes Go.ChangeAt Go.RowKit Go.Proofs.YtpkolfmdockdnaaFmt.inv
set_option linter.unusedVariables false
set_option maxRecDepth 100000

/-- What EnterBlock reads of the context at F, its map at M. -/
structure Fc (w : World) (F M sB pB : Nat) : Prop where
  c4 : w.cell? ⟨F, 4, none⟩ = some (.pointer (some ⟨pB, 0, none⟩))
  c5 : w.cell? ⟨F, 5, none⟩ = some (.slice (some ⟨sB, 0, none⟩) 1 1)
  c6 : w.cell? ⟨F, 6, none⟩ = some (.int .i64 0)
  f4 : w.frozen? ⟨F, 4, none⟩ = false
  f5 : w.frozen? ⟨F, 5, none⟩ = false
  hs : w.rowIs sB 38 1 (lf [.pointer (some ⟨pB, 0, none⟩)])
  ne : sB ≠ F
  neM : sB ≠ M
theorem Fc.below {w w' : World} {F M sB pB : Nat} (h : Fc w F M sB pB) (b : Below w.heap.size w w') : Fc w' F M sB pB := by
  have e := b.block F (cell_block_lt h.c4)
  exact ⟨(World.cell?_of_block (a := ⟨F, 4, none⟩) e).trans h.c4, (World.cell?_of_block (a := ⟨F, 5, none⟩) e).trans h.c5, (World.cell?_of_block (a := ⟨F, 6, none⟩) e).trans h.c6, (World.frozen?_of_block (a := ⟨F, 4, none⟩) e).trans h.f4, (World.frozen?_of_block (a := ⟨F, 5, none⟩) e).trans h.f5, rowIs_below b h.hs.lt h.hs, h.ne, h.neM⟩
theorem Fc.kept {w w' : World} {F M sB pB : Nat} (h : Fc w F M sB pB) (hk : ∀ i, i < w.heap.size → i ≠ M → i ≠ F → w'.heap[i]? = w.heap[i]?) (ho : ∀ o, o ≠ 9 → w'.cell? ⟨F, o, none⟩ = w.cell? ⟨F, o, none⟩) (hf : ∀ o, w'.frozen? ⟨F, o, none⟩ = w.frozen? ⟨F, o, none⟩) : Fc w' F M sB pB :=
  ⟨(ho 4 (by decide)).trans h.c4, (ho 5 (by decide)).trans h.c5, (ho 6 (by decide)).trans h.c6, (hf 4).trans h.f4, (hf 5).trans h.f5, h.hs.of_block (hk sB h.hs.lt h.neM h.ne), h.ne, h.neM⟩

theorem made_any (s : ByteArray) (x : Option Addr) (nm : Nat → ByteArray) (ln : Nat → Int) (w : World) : Calls Tryf.prog 5 #[.string s, .pointer x] w fun e w' => ∃ F M sB pB, e = .returned (.pointer (some ⟨F, 0, none⟩)) ∧ w.heap.size ≤ F ∧ w.heap.size ≤ M ∧ St w' F M 0 nm ln (fun _ => 0) ∧ Fc w' F M sB pB ∧ Below w.heap.size w w' := by
  go_enter Tryf.func5, Tryf.ntmps5
  go_wp2_with fail
  refine (fc_any s x w).mono ?_
  rintro e w1 ⟨F, pP, pC, pL, pB, m1, m2, sB, rfl, hF, hs, hr, hrs, hp, b⟩
  have hne : sB ≠ F := by
    rintro rfl
    obtain ⟨cs, hc, _⟩ := hr
    obtain ⟨cs', hc', _⟩ := hrs
    rw [hc] at hc'
    cases hc'
  have hneM : sB ≠ m2 := by
    rintro rfl
    obtain ⟨cs, hc, _⟩ := hrs
    have := hp.mE
    rw [hc] at this
    cases this
  have S := Lib.hid (St.mk (nm := nm) (ln := ln) (hr.cell (i := 9) (by simp)) (hr.frozen 9) (hr.cell (i := 10) (by simp)) (Gm.made w1 (fun _ => 0) hp.mE) (fun j hj => absurd hj (by omega)) : St w1 F m2 0 nm ln (fun _ => 0))
  have C := Lib.hid (Fc.mk (hr.cell (i := 4) (by simp)) (hr.cell (i := 5) (by simp)) (hr.cell (i := 6) (by simp)) (hr.frozen 4) (hr.frozen 5) hrs hne hneM : Fc w1 F m2 sB pB)
  have hm := hp.mGe
  clear hr hp hrs
  go_wp2_with fail
  go_ret
  exact ⟨F, m2, sB, pB, rfl, hF, hm, S.out, C.out, b⟩

theorem zzEnter_any (F M k sB pB : Nat) (nm : Nat → ByteArray) (ln : Nat → Int) (q : Nat → Nat) (w : World) (h : St w F M k nm ln q) (c : Fc w F M sB pB) :
    Calls Tryf.prog 8 #[.pointer (some ⟨F, 0, none⟩)] w fun e w' => e = .returned (.tuple #[]) ∧ ∃ nb, w'.cell? ⟨F, 4, none⟩ = some (.pointer (some ⟨nb, 0, none⟩)) ∧ w'.cell? ⟨nb, 7, none⟩ = some (.int .i64 k) ∧ St w' F M k nm ln q ∧ (∀ B, B ≤ F → Below B w w') ∧ (∀ b T n f, b ≠ F → w.rowIs b T n f → w'.rowIs b T n f) := by
  go_enter Tryf.func8, Tryf.ntmps8
  go_wp2_with fail
  refine (enter_any F M k sB pB nm ln q w h c.c4 c.c5 c.c6 c.f4 c.f5 c.hs c.ne).mono ?_
  rintro e w' ⟨rfl, r⟩
  have R := Lib.hid r
  clear r h c
  go_wp2_with fail
  go_end0
  exact ⟨rfl, R.out⟩

theorem check_any (F k nb : Nat) (w : World) (c4 : w.cell? ⟨F, 4, none⟩ = some (.pointer (some ⟨nb, 0, none⟩))) (c7 : w.cell? ⟨nb, 7, none⟩ = some (.int .i64 k)) (c9 : w.cell? ⟨F, 9, none⟩ = some (.int .i64 k)) :
    Calls Tryf.prog 9 #[.pointer (some ⟨F, 0, none⟩)] w fun e w' => e = .returned (.tuple #[]) ∧ Below w.heap.size w w' := by
  go_enter Tryf.func9, Tryf.ntmps9
  go_wp2_with fail
  go_loopw [2] (fun i wr => i = .int .i64 k ∧ Hid (wr = w)) (fun _ _ => 0)
  case atStart => exact ⟨rfl, Lib.hid rfl⟩
  case round =>
    obtain ⟨rfl, HW⟩ := hrel
    obtain rfl := HW.out
    go_wp2_with fail
    go_end0
    exact ⟨rfl, Below.refl _ _⟩

set_option maxHeartbeats 4000000 in
theorem main (a : Option Addr) (n c : Nat) (z : List ByteArray) (w : World) (r : IsRow .string ByteArray.empty w a n c z) (q : ∀ x ∈ z, x.size ≤ maxLen) (hn : n ≤ 4096) :
    Calls Tryf.prog 3 #[.slice a n c] w fun e w' => e = .returned (.bool true) ∧ Below w.heap.size w w' := by
  have l0 := Lib.hid r.1
  have R0 := Lib.hid r
  have Q0 := Lib.hid q
  clear r q
  go_enter Tryf.func3, Tryf.ntmps3
  go_wp2_with fail
  refine (byFnCheckUnresolvedGotoSkipsOuterBlocks_any w a n c z R0.out Q0.out).mono ?_
  rintro e w1 ⟨ok, rfl, hok, b1⟩
  cases ok with
  | false =>
    clear hok
    go_wp2_with fail
    go_ret
    exact ⟨rfl, b1⟩
  | true =>
    have htot := hok rfl
    clear hok
    go_wp2_with fail
    go_loopw [3, 4] (fun b i wr => ∃ k : Nat, k ≤ n ∧ i = .int .i64 k ∧ b = .int .i64 ((tot z k + 16 * k : Nat) : Int) ∧ Hid (wr = w1)) (fun _ i _ => n - (intOf i).toNat)
    case atStart => exact ⟨0, Nat.zero_le _, rfl, by simp [tot_zero], Lib.hid rfl⟩
    case round =>
      obtain ⟨k, hk, rfl, rfl, HW⟩ := hrel
      obtain rfl := HW.out
      by_cases hlt : k < n
      · have hlt' : (k : Int) < (n : Int) := by omega
        obtain ⟨b, off, hx, hbl, hcl⟩ := (row_below R0.out b1).2.2.2.2 (by omega)
        obtain ⟨v, hv⟩ : ∃ v, z.getD k ByteArray.empty = v := ⟨_, rfl⟩
        have hc := hcl k hlt
        rw [hv] at hc
        have ht := tot_succ z k (by have := l0.out; omega)
        rw [hv] at ht
        have hle := tot_le z (show k + 1 ≤ n by omega)
        have HX := Lib.hid hx
        obtain ⟨t0, ht0⟩ : ∃ t, tot z k = t := ⟨_, rfl⟩
        rw [ht0] at ht ⊢
        have HT := Lib.hid ht
        have hvs : t0 + v.size ≤ 1048576 := by omega
        rw [hx]
        clear hx hcl hv ht hle htot
        go_wp2_with fail
        go_roundw
        case rel => exact ⟨k + 1, by omega, by go_num, by rw [HT.out]; go_num, by first | exact HW | exact Lib.hid trivial⟩
        case measure => simp [intOf]; omega
      · obtain rfl : n = k := by omega
        by_cases hbig : (1048576 : Int) < ((tot z n + 16 * n : Nat) : Int)
        · go_wp2_with fail
          go_ret
          exact ⟨rfl, b1⟩
        have hbig' : decide ((1048576 : Int) < ((tot z n + 16 * n : Nat) : Int)) = false := by simpa using hbig
        have hnl := fun (w : World) (a : Option Addr) (n c n' c' : Nat) => Lib.run_eql_slice_nil (P := Tryf.prog) w 22 9 a n c n' c' Tryf.underlying22
        cases a with
        | none =>
          have hz : n = 0 := by
            have := R0.out.2.2.2.1 rfl
            have := R0.out.2.1
            omega
          subst hz
          go_wp2_with fail
          refine (made_any _ none (fun j => z.getD j ByteArray.empty) (fun j => (j : Int) + 1) wr).mono ?_
          rintro e w3 ⟨F, M, sB, pB, rfl, hF, hM, s3, c3, b3⟩
          have S3 := Lib.hid s3
          have C3 := Lib.hid c3
          have B3 := bel_trans b1 b3 b1.size
          have hwF : w.heap.size ≤ F := by have := b1.size; omega
          clear s3 c3 b3
          go_wp2_with fail
          go_loopw [8] (fun i wr => i = .int .i64 0 ∧ Hid (wr = w3)) (fun _ _ => 0)
          case atStart => exact ⟨rfl, Lib.hid rfl⟩
          case round =>
            obtain ⟨rfl, HW3⟩ := hrel
            obtain rfl := HW3.out
            go_wp2_with fail
            refine (zzEnter_any F M 0 sB pB (fun j => z.getD j ByteArray.empty) (fun j => (j : Int) + 1) (fun _ => 0) _ S3.out C3.out).mono ?_
            rintro e w4 ⟨rfl, nb, n4, n7, s4, hB4, _⟩
            have S4 := Lib.hid s4
            have B4 := B3.trans (hB4 w.heap.size hwF)
            clear s4 hB4 S3 C3 B3
            go_wp2_with fail
            refine (check_any F 0 nb w4 n4 n7 S4.out.c9).mono ?_
            rintro e w5 ⟨rfl, b5⟩
            have S5 := Lib.hid (S4.out.below b5)
            have B5 := bel_trans B4 b5 B4.size
            have c9 := S5.out.c9
            have c10 := S5.out.c10
            have hlen := S5.out.g.len
            clear n4 n7 S4 B4 b5
            go_wp2_with first | (go_at_call 10; go_in) | (go_at_call 11; go_in)
            go_loopw [10] (fun i wr => i = .int .i64 0 ∧ Below w.heap.size w wr) (fun _ _ => 0)
            case atStart => exact ⟨rfl, B5⟩
            case round =>
              obtain ⟨rfl, B6⟩ := hrel
              go_wp2_with fail
              go_ret
              exact ⟨rfl, B6⟩
        | some x =>
          have hmk := run_make_row' (P := Tryf.prog) 22 9 (.string ByteArray.empty) 16 Tryf.underlying22 infoS rfl .i64 .i64 n (by omega) (by omega)
          obtain ⟨wo, hwo⟩ : ∃ v : World, v = wr := ⟨_, rfl⟩
          subst hwo
          go_wp2_with fail
          go_loopw [6] (fun i wq => ∃ k : Nat, k ≤ n ∧ i = .int .i64 k ∧ Below wo.heap.size wo wq ∧ Hid (wq.rowIs wo.heap.size 9 n (fun j => .string (if j < k then z.getD j ByteArray.empty else ByteArray.empty)))) (fun i _ => n - (intOf i).toNat)
          case atStart => exact ⟨0, Nat.zero_le _, rfl, (Below.refl _ _).alloc (Nat.le_refl _) _, Lib.hid (by simpa using World.rowIs_made wo (.string ByteArray.empty) n 9)⟩
          case round =>
            obtain ⟨k, hk, rfl, bq, RK⟩ := hrel
            by_cases hlt : k < n
            · have hlt' : (k : Int) < (n : Int) := by omega
              obtain ⟨b, off, hx, hbl, hcl⟩ := (row_below R0.out b1).2.2.2.2 (by omega)
              cases hx
              have hc := (bq.cell (p := ⟨b, off + k, none⟩) hbl).trans (hcl k hlt)
              have hd := RK.out.cell hlt
              have hf := RK.out.frozen k
              clear hcl
              go_wp2_with fail
              go_roundw
              case rel => exact ⟨k + 1, by omega, by go_num, bq.setCell (Nat.le_refl _) _, Lib.hid ((RK.out.set k _).congr fun j hj => by have hz : k < z.length := (by have := l0.out; omega); have e := row_step .string ByteArray.empty z k j hz; simpa [hz] using e)⟩
              case measure => simp [intOf]; omega
            · obtain rfl : n = k := by omega
              obtain ⟨S, hS⟩ : ∃ s, wo.heap.size = s := ⟨_, rfl⟩
              have RN : Hid (wr.rowIs S 9 n (fun j => .string (z.getD j ByteArray.empty))) := Lib.hid (by rw [← hS]; exact RK.out.congr fun j hj => by rw [if_pos (by omega)])
              have B2 := bel_trans b1 bq b1.size
              rw [hS]
              clear hmk RK hS bq
              go_wp2_with fail
              refine (made_any _ none (fun j => z.getD j ByteArray.empty) (fun j => (j : Int) + 1) wr).mono ?_
              rintro e w3 ⟨F, M, sB, pB, rfl, hF, hM, s3, c3, b3⟩
              have hSl := RN.out.lt
              have hSF : S < F := by omega
              have hSM : S < M := by omega
              have hwF : w.heap.size ≤ F := by have := B2.size; omega
              have hwM : w.heap.size ≤ M := by have := B2.size; omega
              have S3 := Lib.hid s3
              have C3 := Lib.hid c3
              have R3 := Lib.hid (rowIs_below b3 hSl RN.out)
              have B3 := bel_trans B2 b3 B2.size
              clear s3 c3 b3 B2 RN hF hM hSl
              go_wp2_with fail
              go_loopw [8] (fun i wr => ∃ (k : Nat) (q : Nat → Nat), k ≤ n ∧ i = .int .i64 k ∧ Hid (St wr F M k (fun j => z.getD j ByteArray.empty) (fun j => (j : Int) + 1) q) ∧ Hid (Fc wr F M sB pB) ∧ Hid (wr.rowIs S 9 n (fun j => .string (z.getD j ByteArray.empty))) ∧ Below w.heap.size w wr) (fun i _ => n - (intOf i).toNat)
              case atStart => exact ⟨0, _, Nat.zero_le _, rfl, S3, C3, R3, B3⟩
              case round =>
                clear S3 C3 R3 B3
                obtain ⟨k, q, hk, rfl, SK, CK, RK, BK⟩ := hrel
                by_cases hlt : k < n
                · have hlt' : (k : Int) < (n : Int) := by omega
                  have hc := RK.out.cell hlt
                  go_wp2_with fail
                  refine (desc_any (k : Int) (z.getD k ByteArray.empty) (k : Int) ((k : Int) + 1) 0 wr).mono ?_
                  rintro e w4 ⟨p, rfl, hp, hr, b4⟩
                  have HR := Lib.hid hr
                  clear hr hc
                  go_wp2_with fail
                  refine (addSt_any F M k p (fun j => z.getD j ByteArray.empty) (fun j => (j : Int) + 1) q w4 (SK.out.below b4) (by have := SK.out.lt; omega) (by have := SK.out.g.lt; omega) HR.out (by omega)).mono ?_
                  rintro e w5 ⟨rfl, ⟨q', h5⟩, hs5, hB5, hk5, ho5, hf5⟩
                  have S5 := Lib.hid h5
                  have C5 := Lib.hid ((CK.out.below b4).kept hk5 ho5 hf5)
                  have R5 := Lib.hid ((rowIs_below b4 RK.out.lt RK.out).of_block (hk5 S (by have := RK.out.lt; have := b4.size; omega) (by omega) (by omega)))
                  have B5 := (bel_trans BK b4 BK.size).trans (hB5 w.heap.size hwF hwM)
                  clear h5 hB5 hk5 ho5 hf5 HR b4 RK SK CK BK
                  go_wp2_with fail
                  go_roundw
                  case rel => exact ⟨k + 1, q', by omega, by go_num, S5, C5, R5, B5⟩
                  case measure => simp [intOf]; omega
                · obtain rfl : n = k := by omega
                  go_wp2_with fail
                  refine (zzEnter_any F M n sB pB (fun j => z.getD j ByteArray.empty) (fun j => (j : Int) + 1) q _ SK.out CK.out).mono ?_
                  rintro e w4 ⟨rfl, nb, n4, n7, s4, hB4, hK4⟩
                  have S4 := Lib.hid s4
                  have R4 := Lib.hid (hK4 S _ _ _ (by omega) RK.out)
                  have B4 := BK.trans (hB4 w.heap.size hwF)
                  clear s4 hB4 hK4 SK CK BK RK
                  go_wp2_with fail
                  refine (check_any F n nb w4 n4 n7 S4.out.c9).mono ?_
                  rintro e w5 ⟨rfl, b5⟩
                  have S5 := Lib.hid (S4.out.below b5)
                  have R5 := Lib.hid (rowIs_below b5 R4.out.lt R4.out)
                  have B5 := bel_trans B4 b5 B4.size
                  have c9 := S5.out.c9
                  have c10 := S5.out.c10
                  have hlen := S5.out.g.len
                  clear n4 n7 S4 B4 b5 R4
                  go_wp2_with first | (go_at_call 10; go_in) | (go_at_call 11; go_in)
                  go_loopw [10] (fun i wr => ∃ j : Nat, j ≤ n ∧ i = .int .i64 j ∧ Hid (St wr F M n (fun j => z.getD j ByteArray.empty) (fun j => (j : Int) + 1) q) ∧ Hid (wr.rowIs S 9 n (fun j => .string (z.getD j ByteArray.empty))) ∧ Below w.heap.size w wr) (fun i _ => n - (intOf i).toNat)
                  case atStart => exact ⟨0, Nat.zero_le _, rfl, S5, R5, B5⟩
                  case round =>
                    clear S5 R5 B5 hlen c9 c10
                    obtain ⟨j, hj, rfl, SJ, RJ, BJ⟩ := hrel
                    by_cases hlt : j < n
                    · have hlt' : (j : Int) < (n : Int) := by omega
                      have hc := RJ.out.cell hlt
                      have hl := SJ.out.g.look hlt (by omega)
                      obtain ⟨_, _, hr⟩ := SJ.out.d j hlt
                      have d0 := hr.cell (i := 0) (by simp)
                      have d1 := hr.cell (i := 1) (by simp)
                      have d3 := hr.cell (i := 3) (by simp)
                      simp only [lf, List.getD_cons_zero, List.getD_cons_succ] at d0 d1 d3
                      obtain ⟨v, hv⟩ : ∃ v, z.getD j ByteArray.empty = v := ⟨_, rfl⟩
                      rw [hv] at hc d1
                      clear hr hv
                      go_wp2_with fail
                      go_quiet (fail)
                      go_wp2_with fail
                      go_roundw
                      case rel => exact ⟨j + 1, by omega, by go_num, Lib.hid (SJ.out.below (below_drewN (Below.refl _ _) _)), Lib.hid (rowIs_below (below_drewN (Below.refl _ _) _) RJ.out.lt RJ.out), below_drewN BJ _⟩
                      case measure => simp [intOf]; omega
                    · obtain rfl : n = j := by omega
                      go_wp2_with fail
                      go_ret
                      exact ⟨rfl, BJ⟩

theorem walk (a0 : Option Addr) (len0 cap0 : Nat) (z0 : List ByteArray) (w : World) (r0 : IsRow .string ByteArray.empty w a0 len0 cap0 z0) (w0 : ∀ z ∈ z0, z.size ≤ maxLen) :
    Calls Tryf.prog 3 #[.slice a0 len0 cap0] w fun e w' => e = .returned (.bool true) ∧ Below w.heap.size w w' := by
  by_cases hn : len0 ≤ 4096
  · exact main a0 len0 cap0 z0 w r0 w0 hn
  have hn' : (4096 : Int) < (len0 : Int) := by omega
  have H := Lib.hid (byFnCheckUnresolvedGotoSkipsOuterBlocks_any w a0 len0 cap0 z0 r0 w0)
  clear r0 w0
  go_enter Tryf.func3, Tryf.ntmps3
  go_wp2_with fail
  refine H.out.mono ?_
  rintro e w1 ⟨ok, rfl, _, b1⟩
  cases ok with
  | false =>
    go_wp2_with fail
    go_ret
    exact ⟨rfl, b1⟩
  | true =>
    go_wp2_with fail
    go_ret
    exact ⟨rfl, b1⟩
end Go.Proofs.YtpkolfmdockdnaaFmt.fnCheckUnresolvedGotoSkipsOuterBlocks
