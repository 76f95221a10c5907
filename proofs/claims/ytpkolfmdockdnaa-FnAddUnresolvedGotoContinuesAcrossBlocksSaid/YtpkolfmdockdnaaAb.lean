/- The walk of FnAddUnresolvedGotoContinuesAcrossBlocks: the Go text returns true and writes nothing that was there. -/
import Derived.Test.YtpkolfmdockdnaaEb
namespace Go.Proofs.Ytpkolfmdockdnaa.fnAddUnresolvedGotoContinuesAcrossBlocks
open Go.ChangeShapes Go.WideShapes Go.ChangeAt Go.RowKit Go.Proofs.Ytpkolfmdockdnaa.inv
set_option linter.unusedVariables false
set_option maxRecDepth 100000

/-- What EnterBlock reads of the context at F, its map at M. -/
structure Fc (w : World) (F M sB pB : Nat) : Prop where
  c4 : w.cell? ⟨F, 4, none⟩ = some (.pointer (some ⟨pB, 0, none⟩))
  c5 : w.cell? ⟨F, 5, none⟩ = some (.slice (some ⟨sB, 0, none⟩) 1 1)
  c6 : w.cell? ⟨F, 6, none⟩ = some (.int .i64 0)
  f4 : w.frozen? ⟨F, 4, none⟩ = false
  f5 : w.frozen? ⟨F, 5, none⟩ = false
  hs : w.rowIs sB 29 1 (lf [.pointer (some ⟨pB, 0, none⟩)])
  ne : sB ≠ F
  neM : sB ≠ M
theorem Fc.below {w w' : World} {F M sB pB : Nat} (h : Fc w F M sB pB) (b : Below w.heap.size w w') : Fc w' F M sB pB := by
  have e := b.block F (cell_block_lt h.c4)
  exact ⟨(World.cell?_of_block (a := ⟨F, 4, none⟩) e).trans h.c4, (World.cell?_of_block (a := ⟨F, 5, none⟩) e).trans h.c5, (World.cell?_of_block (a := ⟨F, 6, none⟩) e).trans h.c6, (World.frozen?_of_block (a := ⟨F, 4, none⟩) e).trans h.f4, (World.frozen?_of_block (a := ⟨F, 5, none⟩) e).trans h.f5, rowIs_below b h.hs.lt h.hs, h.ne, h.neM⟩
theorem Fc.kept {w w' : World} {F M sB pB : Nat} (h : Fc w F M sB pB) (hk : ∀ i, i < w.heap.size → i ≠ M → i ≠ F → w'.heap[i]? = w.heap[i]?) (ho : ∀ o, o ≠ 9 → w'.cell? ⟨F, o, none⟩ = w.cell? ⟨F, o, none⟩) (hf : ∀ o, w'.frozen? ⟨F, o, none⟩ = w.frozen? ⟨F, o, none⟩) : Fc w' F M sB pB :=
  ⟨(ho 4 (by decide)).trans h.c4, (ho 5 (by decide)).trans h.c5, (ho 6 (by decide)).trans h.c6, (hf 4).trans h.f4, (hf 5).trans h.f5, h.hs.of_block (hk sB h.hs.lt h.neM h.ne), h.ne, h.neM⟩

theorem made_any (s : ByteArray) (x : Option Addr) (nm : Nat → ByteArray) (ln : Nat → Int) (w : World) : Calls Try.prog 9 #[.string s, .pointer x] w fun e w' => ∃ F M sB pB, e = .returned (.pointer (some ⟨F, 0, none⟩)) ∧ w.heap.size ≤ F ∧ w.heap.size ≤ M ∧ St w' F M 0 nm ln (fun _ => 0) ∧ Fc w' F M sB pB ∧ Below w.heap.size w w' := by
  go_enter Try.func9, Try.ntmps9
  go_wp2_with fail
  refine (fc_any s x w).mono ?_
  rintro e w1 ⟨F, pP, pC, pL, pB, m1, m2, sB, rfl, hF, hs, hr, hrs, hp, b⟩
  have hne : sB ≠ F := by
    rintro rfl
    obtain ⟨cs, hc, _⟩ := hr
    obtain ⟨cs', hc', _⟩ := hrs
    rw [hc] at hc'
    cases hc'
  have hneM : sB ≠ m2 := by
    rintro rfl
    obtain ⟨cs, hc, _⟩ := hrs
    have := hp.mE
    rw [hc] at this
    cases this
  have S := Lib.hid (St.mk (nm := nm) (ln := ln) (hr.cell (i := 9) (by simp)) (hr.frozen 9) (hr.cell (i := 10) (by simp)) (Gm.made w1 (fun _ => 0) hp.mE) (fun j hj => absurd hj (by omega)) : St w1 F m2 0 nm ln (fun _ => 0))
  have C := Lib.hid (Fc.mk (hr.cell (i := 4) (by simp)) (hr.cell (i := 5) (by simp)) (hr.cell (i := 6) (by simp)) (hr.frozen 4) (hr.frozen 5) hrs hne hneM : Fc w1 F m2 sB pB)
  have hm := hp.mGe
  clear hr hp hrs
  go_wp2_with fail
  go_ret
  exact ⟨F, m2, sB, pB, rfl, hF, hm, S.out, C.out, b⟩

theorem zzEnter_any (F M k sB pB : Nat) (nm : Nat → ByteArray) (ln : Nat → Int) (q : Nat → Nat) (w : World) (h : St w F M k nm ln q) (c : Fc w F M sB pB) :
    Calls Try.prog 13 #[.pointer (some ⟨F, 0, none⟩)] w fun e w' => e = .returned (.tuple #[]) ∧ ∃ nb, w'.cell? ⟨F, 4, none⟩ = some (.pointer (some ⟨nb, 0, none⟩)) ∧ w'.cell? ⟨nb, 7, none⟩ = some (.int .i64 k) ∧ St w' F M k nm ln q ∧ (∀ B, B ≤ F → Below B w w') ∧ (∀ b T n f, b ≠ F → w.rowIs b T n f → w'.rowIs b T n f) := by
  go_enter Try.func13, Try.ntmps13
  go_wp2_with fail
  refine (enter_any F M k sB pB nm ln q w h c.c4 c.c5 c.c6 c.f4 c.f5 c.hs c.ne).mono ?_
  rintro e w' ⟨rfl, r⟩
  have R := Lib.hid r
  clear r h c
  go_wp2_with fail
  go_end0
  exact ⟨rfl, R.out⟩

/-- The j-th goto's name and line. -/
def NM (u j : Nat) : ByteArray := if j < u then ⟨#[111, 117, 116, 101, 114]⟩ else ⟨#[105, 110, 110, 101, 114]⟩
def LN (u j : Nat) : Int := if j < u then 1 else 2

set_option maxHeartbeats 4000000 in
theorem main (u n : Nat) (w : World) (hu : u ≤ 65536) (hn : n ≤ 65536) :
    Calls Try.prog 4 #[.int .i64 u, .int .i64 n] w fun e w' => e = .returned (.bool true) ∧ Below w.heap.size w w' := by
  have d1 : decide ((u : Int) < 0) = false := by simp
  have d2 : decide ((n : Int) < 0) = false := by simp
  have d3 : decide ((65536 : Int) < (u : Int)) = false := by simp; omega
  have d4 : decide ((65536 : Int) < (n : Int)) = false := by simp; omega
  go_enter Try.func4, Try.ntmps4
  go_wp2_with fail
  refine (made_any _ none (NM u) (LN u) w).mono ?_
  rintro e w3 ⟨F, M, sB, pB, rfl, hF, hM, s3, c3, b3⟩
  have S3 := Lib.hid s3
  have C3 := Lib.hid c3
  clear s3 c3
  go_wp2_with fail
  go_loopw [6] (fun i wr => ∃ (k : Nat) (q : Nat → Nat), k ≤ u ∧ i = .int .i64 k ∧ Hid (St wr F M k (NM u) (LN u) q) ∧ Hid (Fc wr F M sB pB) ∧ Below w.heap.size w wr) (fun i _ => u - (intOf i).toNat)
  case atStart => exact ⟨0, _, Nat.zero_le _, rfl, S3, C3, b3⟩
  case round =>
    clear S3 C3 b3
    obtain ⟨k, q, hk, rfl, SK, CK, BK⟩ := hrel
    by_cases hlt : k < u
    · have hlt' : (k : Int) < (u : Int) := by omega
      go_wp2_with fail
      refine (desc_any (k : Int) _ (k : Int) 1 0 wr).mono ?_
      rintro e w4 ⟨p, rfl, hp, hr, b4⟩
      have HR : Hid (w4.rowIs p 52 5 (dCells k (NM u k) (LN u k))) := Lib.hid (by simp only [NM, LN, if_pos hlt]; exact hr)
      clear hr
      go_wp2_with fail
      refine (addSt_any F M k p (NM u) (LN u) q w4 (SK.out.below b4) (by have := SK.out.lt; omega) (by have := SK.out.g.lt; omega) HR.out (by omega)).mono ?_
      rintro e w5 ⟨rfl, ⟨q', h5⟩, hs5, hB5, hk5, ho5, hf5⟩
      have S5 := Lib.hid h5
      have C5 := Lib.hid ((CK.out.below b4).kept hk5 ho5 hf5)
      have B5 := (bel_trans BK b4 BK.size).trans (hB5 w.heap.size hF hM)
      clear h5 hB5 hk5 ho5 hf5 HR b4 CK SK BK
      go_wp2_with fail
      go_roundw
      case rel => exact ⟨k + 1, q', by omega, by go_num, S5, C5, B5⟩
      case measure => simp [intOf]; omega
    · obtain rfl : u = k := by omega
      go_wp2_with fail
      refine (zzEnter_any F M u sB pB (NM u) (LN u) q wr SK.out CK.out).mono ?_
      rintro e w4 ⟨rfl, nb, n4, n7, s4, hB4, _⟩
      have S4 := Lib.hid s4
      have B4 := BK.trans (hB4 w.heap.size hF)
      clear s4 hB4 SK CK BK
      go_wp2_with (go_at_call 14; go_in)
      clear n4 n7
      go_loopw [7] (fun i wr => ∃ (k : Nat) (q : Nat → Nat), k ≤ n ∧ i = .int .i64 k ∧ Hid (St wr F M (u + k) (NM u) (LN u) q) ∧ Below w.heap.size w wr) (fun i _ => n - (intOf i).toNat)
      case atStart => exact ⟨0, _, Nat.zero_le _, rfl, S4, B4⟩
      case round =>
        clear S4 B4
        obtain ⟨k, q, hk, rfl, SK, BK⟩ := hrel
        by_cases hlt : k < n
        · have hlt' : (k : Int) < (n : Int) := by omega
          go_wp2_with fail
          refine (desc_any ((u : Int) + (k : Int)) _ ((u : Int) + (k : Int)) 2 0 wr).mono ?_
          rintro e w4 ⟨p, rfl, hp, hr, b4⟩
          have HR : Hid (w4.rowIs p 52 5 (dCells (u + k) (NM u (u + k)) (LN u (u + k)))) := Lib.hid (by simp only [NM, LN, if_neg (show ¬ u + k < u by omega)]; exact hr)
          clear hr
          go_wp2_with fail
          refine (addSt_any F M (u + k) p (NM u) (LN u) q w4 (SK.out.below b4) (by have := SK.out.lt; omega) (by have := SK.out.g.lt; omega) HR.out (by omega)).mono ?_
          rintro e w5 ⟨rfl, ⟨q', h5⟩, hs5, hB5, hk5, ho5, hf5⟩
          have S5 := Lib.hid h5
          have B5 := (bel_trans BK b4 BK.size).trans (hB5 w.heap.size hF hM)
          clear h5 hB5 hk5 ho5 hf5 HR b4 SK BK
          go_wp2_with fail
          go_roundw
          case rel =>
            refine ⟨_, _, _, _, _, _, _, _, _, _, _, _, _, _, _, ⟨k + 1, q', by omega, ?_, S5, B5⟩, rfl⟩
            go_num
          case measure => simp [intOf]; omega
        · obtain rfl : n = k := by omega
          have c9 : wr.cell? ⟨F, 9, none⟩ = some (.int .i64 ((u : Int) + (n : Int))) := SK.out.c9
          have c10 := SK.out.c10
          have hlen : ∀ ty, (Builtin.len_ #[32] ty #[.map (some M)]).run Try.prog wr = .ok (.int .i64 ((u : Int) + (n : Int))) wr := SK.out.g.len
          go_wp2_with first | (go_at_call 16; go_in) | (go_at_call 15; go_in)
          clear c9 c10 hlen
          go_loopw [10] (fun i wr => ∃ k : Nat, k ≤ u + n ∧ i = .int .i64 k ∧ Hid (St wr F M (u + n) (NM u) (LN u) q) ∧ Below w.heap.size w wr) (fun i _ => u + n - (intOf i).toNat)
          case atStart => exact ⟨0, Nat.zero_le _, rfl, SK, BK⟩
          case round =>
            clear SK BK
            obtain ⟨j, hj, rfl, SJ, BJ⟩ := hrel
            by_cases hlt : j < u + n
            · have hlt' : (j : Int) < (u : Int) + (n : Int) := by omega
              have hl := SJ.out.g.look hlt (by omega)
              obtain ⟨_, _, hr⟩ := SJ.out.d j hlt
              have d0 := hr.cell (i := 0) (by simp)
              have d1 := hr.cell (i := 1) (by simp)
              simp only [lf, List.getD_cons_zero, List.getD_cons_succ] at d0 d1
              clear hr
              by_cases hju : j < u
              · have hju' : (j : Int) < (u : Int) := by omega
                simp only [NM, if_pos hju] at d1
                go_wp2_with fail
                go_roundw
                case rel =>
                  repeat apply Exists.intro
                  refine ⟨⟨j + 1, by omega, ?_, SJ, BJ⟩, rfl⟩
                  go_num
                case measure => simp [intOf]; omega
              · have hju' : ¬ (j : Int) < (u : Int) := by omega
                simp only [NM, if_neg hju] at d1
                go_wp2_with fail
                exact ⟨⟨j + 1, by omega, by omega⟩, by simp [intOf]; omega⟩
            · obtain rfl : j = u + n := by omega
              have hlt' : ¬ ((u + n : Nat) : Int) < (u : Int) + (n : Int) := by omega
              go_wp2_with fail
              go_ret
              exact ⟨rfl, BJ⟩

set_option maxHeartbeats 1000000 in
theorem walk (a0 : Int) (a1 : Int) (w : World) (w0 : (Lit.int .i64 a0).wf = true) (w1 : (Lit.int .i64 a1).wf = true) :
    Calls Try.prog 4 #[.int .i64 a0, .int .i64 a1] w fun e w' => e = .returned (.bool true) ∧ Below w.heap.size w w' := by
  have b0 := i64_bd w0
  have b1 := i64_bd w1
  by_cases g0 : a0 < 0
  · skip
    go_enter Try.func4, Try.ntmps4
    go_wp2_with fail
    all_goals (go_ret; exact ⟨rfl, Below.refl _ _⟩)
  by_cases g1 : (65536 : Int) < a0
  · skip
    go_enter Try.func4, Try.ntmps4
    go_wp2_with fail
    all_goals (go_ret; exact ⟨rfl, Below.refl _ _⟩)
  by_cases g2 : a1 < 0
  · skip
    go_enter Try.func4, Try.ntmps4
    go_wp2_with fail
    all_goals (go_ret; exact ⟨rfl, Below.refl _ _⟩)
  by_cases g3 : (65536 : Int) < a1
  · skip
    go_enter Try.func4, Try.ntmps4
    go_wp2_with fail
    all_goals (go_ret; exact ⟨rfl, Below.refl _ _⟩)
  obtain ⟨u, rfl⟩ := Int.eq_ofNat_of_zero_le (show 0 ≤ a0 by omega)
  obtain ⟨n, rfl⟩ := Int.eq_ofNat_of_zero_le (show 0 ≤ a1 by omega)
  exact main u n w (by omega) (by omega)
end Go.Proofs.Ytpkolfmdockdnaa.fnAddUnresolvedGotoContinuesAcrossBlocks
