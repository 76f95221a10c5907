/- The walk of FnAddUnresolvedGotoNumbersInOrder: the Go text returns true and writes nothing that was there. -/
import Derived.Test.YtpkolfmdockdnaaNf
import Derived.Test.YtpkolfmdockdnaaGst
import Derived.Test.YtpkolfmdockdnaaByGo
namespace Go.Proofs.Ytpkolfmdockdnaa.fnAddUnresolvedGotoNumbersInOrder
open Go.ChangeShapes Go.WideShapes Go.ChangeAt Go.RowKit Go.Proofs.Ytpkolfmdockdnaa.inv
set_option linter.unusedVariables false
set_option maxRecDepth 100000

theorem made_any (s : ByteArray) (x : Option Addr) (w : World) : Calls Try.prog 9 #[.string s, .pointer x] w fun e w' => ∃ F M, e = .returned (.pointer (some ⟨F, 0, none⟩)) ∧ w.heap.size ≤ F ∧ w.heap.size ≤ M ∧ w'.cell? ⟨F, 9, none⟩ = some (.int .i64 0) ∧ w'.cell? ⟨F, 10, none⟩ = some (.map (some M)) ∧ w'.frozen? ⟨F, 9, none⟩ = false ∧ Gm w' M 0 (fun _ => 0) ∧ Below w.heap.size w w' := by
  go_enter Try.func9, Try.ntmps9
  go_wp2_with fail
  refine (fc_any s x w).mono ?_
  rintro e w1 ⟨F, pP, pC, pL, pB, m1, m2, sB, rfl, hF, hs, hr, _, hp, b⟩
  have h9 := Lib.hid (hr.cell (i := 9) (by simp))
  have h10 := Lib.hid (hr.cell (i := 10) (by simp))
  have hf := Lib.hid (hr.frozen 9)
  have hg := Lib.hid (Gm.made w1 (fun _ => 0) hp.mE)
  have hm := hp.mGe
  clear hr hp
  go_wp2_with fail
  go_ret
  exact ⟨F, m2, rfl, hF, hm, h9.out, h10.out, hf.out, hg.out, b⟩

set_option maxHeartbeats 4000000 in
theorem main (a : Option Addr) (n c : Nat) (z : List ByteArray) (w : World) (r : IsRow .string ByteArray.empty w a n c z) (q : ∀ x ∈ z, x.size ≤ maxLen) (hn : n ≤ 4096) :
    Calls Try.prog 6 #[.slice a n c] w fun e w' => e = .returned (.bool true) ∧ Below w.heap.size w w' := by
  have l0 := Lib.hid r.1
  have R0 := Lib.hid r
  have Q0 := Lib.hid q
  clear r q
  go_enter Try.func6, Try.ntmps6
  go_wp2_with fail
  refine (byFnAddUnresolvedGotoNumbersInOrder_any w a n c z R0.out Q0.out).mono ?_
  rintro e w1 ⟨ok, rfl, hok, b1⟩
  cases ok with
  | false =>
    clear hok
    go_wp2_with fail
    go_ret
    exact ⟨rfl, b1⟩
  | true =>
    have htot := hok rfl
    clear hok
    go_wp2_with fail
    go_loopw [3, 4] (fun b i wr => ∃ k : Nat, k ≤ n ∧ i = .int .i64 k ∧ b = .int .i64 ((tot z k + 16 * k : Nat) : Int) ∧ Hid (wr = w1)) (fun _ i _ => n - (intOf i).toNat)
    case atStart => exact ⟨0, Nat.zero_le _, rfl, by simp [tot_zero], Lib.hid rfl⟩
    case round =>
      obtain ⟨k, hk, rfl, rfl, HW⟩ := hrel
      obtain rfl := HW.out
      by_cases hlt : k < n
      · have hlt' : (k : Int) < (n : Int) := by omega
        obtain ⟨b, off, hx, hbl, hcl⟩ := (row_below R0.out b1).2.2.2.2 (by omega)
        obtain ⟨v, hv⟩ : ∃ v, z.getD k ByteArray.empty = v := ⟨_, rfl⟩
        have hc := hcl k hlt
        rw [hv] at hc
        have ht := tot_succ z k (by have := l0.out; omega)
        rw [hv] at ht
        have hle := tot_le z (show k + 1 ≤ n by omega)
        have HX := Lib.hid hx
        obtain ⟨t0, ht0⟩ : ∃ t, tot z k = t := ⟨_, rfl⟩
        rw [ht0] at ht ⊢
        have HT := Lib.hid ht
        have hvs : t0 + v.size ≤ 1048576 := by omega
        rw [hx]
        clear hx hcl hv ht hle htot
        go_wp2_with fail
        go_roundw
        case rel => exact ⟨k + 1, by omega, by go_num, by rw [HT.out]; go_num, by first | exact HW | exact Lib.hid trivial⟩
        case measure => simp [intOf]; omega
      · obtain rfl : n = k := by omega
        by_cases hbig : (1048576 : Int) < ((tot z n + 16 * n : Nat) : Int)
        · go_wp2_with fail
          go_ret
          exact ⟨rfl, b1⟩
        have hbig' : decide ((1048576 : Int) < ((tot z n + 16 * n : Nat) : Int)) = false := by simpa using hbig
        have hnl := fun (w : World) (a : Option Addr) (n c n' c' : Nat) => Lib.run_eql_slice_nil (P := Try.prog) w 41 9 a n c n' c' Try.underlying41
        cases a with
        | none =>
          have hz : n = 0 := by
            have := R0.out.2.2.2.1 rfl
            have := R0.out.2.1
            omega
          subst hz
          go_wp2_with fail
          refine (made_any _ none wr).mono ?_
          rintro e w3 ⟨F, M, rfl, hF, hM, h9, h10, hf, hg, b3⟩
          have S3 : Hid (St w3 F M 0 (fun j => z.getD j ByteArray.empty) (fun j => (j : Int) + 1) (fun _ => 0)) := Lib.hid ⟨h9, hf, h10, hg, fun j hj => absurd hj (by omega)⟩
          have B3 := bel_trans b1 b3 b1.size
          clear h9 h10 hf hg b3
          go_wp2_with fail
          go_loopw [8] (fun i wr => i = .int .i64 0 ∧ Hid (wr = w3)) (fun _ _ => 0)
          case atStart => exact ⟨rfl, Lib.hid rfl⟩
          case round =>
            obtain ⟨rfl, HW3⟩ := hrel
            obtain rfl := HW3.out
            have c10 := S3.out.c10
            have hlen := S3.out.g.len
            go_wp2_with (go_at_call 16; go_in)
            go_loopw [10] (fun i wr => i = .int .i64 0 ∧ Below w.heap.size w wr) (fun _ _ => 0)
            case atStart => exact ⟨rfl, B3⟩
            case round =>
              obtain ⟨rfl, B4⟩ := hrel
              go_wp2_with fail
              go_ret
              exact ⟨rfl, B4⟩
        | some x =>
          have hmk := run_make_row' (P := Try.prog) 41 9 (.string ByteArray.empty) 16 Try.underlying41 infoS rfl .i64 .i64 n (by omega) (by omega)
          obtain ⟨wo, hwo⟩ : ∃ v : World, v = wr := ⟨_, rfl⟩
          subst hwo
          go_wp2_with fail
          go_loopw [6] (fun i wq => ∃ k : Nat, k ≤ n ∧ i = .int .i64 k ∧ Below wo.heap.size wo wq ∧ Hid (wq.rowIs wo.heap.size 9 n (fun j => .string (if j < k then z.getD j ByteArray.empty else ByteArray.empty)))) (fun i _ => n - (intOf i).toNat)
          case atStart => exact ⟨0, Nat.zero_le _, rfl, (Below.refl _ _).alloc (Nat.le_refl _) _, Lib.hid (by simpa using World.rowIs_made wo (.string ByteArray.empty) n 9)⟩
          case round =>
            obtain ⟨k, hk, rfl, bq, RK⟩ := hrel
            by_cases hlt : k < n
            · have hlt' : (k : Int) < (n : Int) := by omega
              obtain ⟨b, off, hx, hbl, hcl⟩ := (row_below R0.out b1).2.2.2.2 (by omega)
              cases hx
              have hc := (bq.cell (p := ⟨b, off + k, none⟩) hbl).trans (hcl k hlt)
              have hd := RK.out.cell hlt
              have hf := RK.out.frozen k
              clear hcl
              go_wp2_with fail
              go_roundw
              case rel => exact ⟨k + 1, by omega, by go_num, bq.setCell (Nat.le_refl _) _, Lib.hid ((RK.out.set k _).congr fun j hj => by have hz : k < z.length := (by have := l0.out; omega); have e := row_step .string ByteArray.empty z k j hz; simpa [hz] using e)⟩
              case measure => simp [intOf]; omega
            · obtain rfl : n = k := by omega
              obtain ⟨S, hS⟩ : ∃ s, wo.heap.size = s := ⟨_, rfl⟩
              have RN : Hid (wr.rowIs S 9 n (fun j => .string (z.getD j ByteArray.empty))) := Lib.hid (by rw [← hS]; exact RK.out.congr fun j hj => by rw [if_pos (by omega)])
              have B2 := bel_trans b1 bq b1.size
              rw [hS]
              clear hmk RK hS bq
              go_wp2_with fail
              refine (made_any _ none wr).mono ?_
              rintro e w3 ⟨F, M, rfl, hF, hM, h9, h10, hf, hg, b3⟩
              have hSl := RN.out.lt
              have hSF : S < F := by omega
              have hSM : S < M := by omega
              have hwF : w.heap.size ≤ F := by have := B2.size; omega
              have hwM : w.heap.size ≤ M := by have := B2.size; omega
              have S3 : Hid (St w3 F M 0 (fun j => z.getD j ByteArray.empty) (fun j => (j : Int) + 1) (fun _ => 0)) := Lib.hid ⟨h9, hf, h10, hg, fun j hj => absurd hj (by omega)⟩
              have R3 := Lib.hid (rowIs_below b3 hSl RN.out)
              have B3 := bel_trans B2 b3 B2.size
              clear h9 h10 hf hg b3 B2 RN hF hM hSl
              go_wp2_with fail
              go_loopw [8] (fun i wr => ∃ (k : Nat) (q : Nat → Nat), k ≤ n ∧ i = .int .i64 k ∧ Hid (St wr F M k (fun j => z.getD j ByteArray.empty) (fun j => (j : Int) + 1) q) ∧ Hid (wr.rowIs S 9 n (fun j => .string (z.getD j ByteArray.empty))) ∧ Below w.heap.size w wr) (fun i _ => n - (intOf i).toNat)
              case atStart => exact ⟨0, _, Nat.zero_le _, rfl, S3, R3, B3⟩
              case round =>
                clear S3 R3 B3
                obtain ⟨k, q, hk, rfl, SK, RK, BK⟩ := hrel
                by_cases hlt : k < n
                · have hlt' : (k : Int) < (n : Int) := by omega
                  have hc := RK.out.cell hlt
                  go_wp2_with fail
                  refine (desc_any (k : Int) (z.getD k ByteArray.empty) (k : Int) ((k : Int) + 1) 0 wr).mono ?_
                  rintro e w4 ⟨p, rfl, hp, hr, b4⟩
                  have HR := Lib.hid hr
                  clear hr hc
                  go_wp2_with fail
                  refine (addSt_any F M k p (fun j => z.getD j ByteArray.empty) (fun j => (j : Int) + 1) q w4 (SK.out.below b4) (by have := SK.out.lt; omega) (by have := SK.out.g.lt; omega) HR.out (by omega)).mono ?_
                  rintro e w5 ⟨rfl, ⟨q', h5⟩, hs5, hB5, hk5, _, _⟩
                  have S5 := Lib.hid h5
                  have c9 : w5.cell? ⟨F, 9, none⟩ = some (.int .i64 ((k : Int) + 1)) := h5.c9
                  have R5 := Lib.hid ((rowIs_below b4 RK.out.lt RK.out).of_block (hk5 S (by have := RK.out.lt; have := b4.size; omega) (by omega) (by omega)))
                  have B5 := (bel_trans BK b4 BK.size).trans (hB5 w.heap.size hwF hwM)
                  clear h5 hB5 hk5 HR b4 RK SK BK
                  go_wp2_with (go_at_call 15; go_in)
                  go_roundw
                  case rel => exact ⟨k + 1, q', by omega, by go_num, S5, R5, B5⟩
                  case measure => simp [intOf]; omega
                · obtain rfl : n = k := by omega
                  have c10 := SK.out.c10
                  have hlen := SK.out.g.len
                  go_wp2_with (go_at_call 16; go_in)
                  go_loopw [10] (fun i wr => ∃ j : Nat, j ≤ n ∧ i = .int .i64 j ∧ Hid (St wr F M n (fun j => z.getD j ByteArray.empty) (fun j => (j : Int) + 1) q) ∧ Hid (wr.rowIs S 9 n (fun j => .string (z.getD j ByteArray.empty))) ∧ Below w.heap.size w wr) (fun i _ => n - (intOf i).toNat)
                  case atStart => exact ⟨0, Nat.zero_le _, rfl, SK, RK, BK⟩
                  case round =>
                    clear SK RK BK hlen c10
                    obtain ⟨j, hj, rfl, SJ, RJ, BJ⟩ := hrel
                    by_cases hlt : j < n
                    · have hlt' : (j : Int) < (n : Int) := by omega
                      have hc := RJ.out.cell hlt
                      have hl := SJ.out.g.look hlt (by omega)
                      obtain ⟨_, _, hr⟩ := SJ.out.d j hlt
                      have d0 := hr.cell (i := 0) (by simp)
                      have d1 := hr.cell (i := 1) (by simp)
                      have d3 := hr.cell (i := 3) (by simp)
                      simp only [lf, List.getD_cons_zero, List.getD_cons_succ] at d0 d1 d3
                      obtain ⟨v, hv⟩ : ∃ v, z.getD j ByteArray.empty = v := ⟨_, rfl⟩
                      rw [hv] at hc d1
                      clear hr hv
                      go_wp2_with fail
                      go_quiet (fail)
                      go_wp2_with fail
                      go_roundw
                      case rel => exact ⟨j + 1, by omega, by go_num, Lib.hid (SJ.out.below (below_drewN (Below.refl _ _) _)), Lib.hid (rowIs_below (below_drewN (Below.refl _ _) _) RJ.out.lt RJ.out), below_drewN BJ _⟩
                      case measure => simp [intOf]; omega
                    · obtain rfl : n = j := by omega
                      go_wp2_with fail
                      go_ret
                      exact ⟨rfl, BJ⟩

theorem walk (a0 : Option Addr) (len0 cap0 : Nat) (z0 : List ByteArray) (w : World) (r0 : IsRow .string ByteArray.empty w a0 len0 cap0 z0) (w0 : ∀ z ∈ z0, z.size ≤ maxLen) :
    Calls Try.prog 6 #[.slice a0 len0 cap0] w fun e w' => e = .returned (.bool true) ∧ Below w.heap.size w w' := by
  by_cases hn : len0 ≤ 4096
  · exact main a0 len0 cap0 z0 w r0 w0 hn
  have hn' : (4096 : Int) < (len0 : Int) := by omega
  have H := Lib.hid (byFnAddUnresolvedGotoNumbersInOrder_any w a0 len0 cap0 z0 r0 w0)
  clear r0 w0
  go_enter Try.func6, Try.ntmps6
  go_wp2_with fail
  refine H.out.mono ?_
  rintro e w1 ⟨ok, rfl, _, b1⟩
  cases ok with
  | false =>
    go_wp2_with fail
    go_ret
    exact ⟨rfl, b1⟩
  | true =>
    go_wp2_with fail
    go_ret
    exact ⟨rfl, b1⟩
end Go.Proofs.Ytpkolfmdockdnaa.fnAddUnresolvedGotoNumbersInOrder
