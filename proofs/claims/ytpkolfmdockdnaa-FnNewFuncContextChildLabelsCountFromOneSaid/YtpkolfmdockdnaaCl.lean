/- The walk of FnNewFuncContextChildLabelsCountFromOne: the Go text returns true and writes nothing that was there. -/
import Derived.Test.YtpkolfmdockdnaaNf
import Derived.StillTailTactics
import Derived.LaidEqlPtr
import Derived.Lib.Builder
namespace Go.Proofs.Ytpkolfmdockdnaa.fnNewFuncContextChildLabelsCountFromOne
open Go.ChangeShapes Go.WideShapes Go.ChangeAt Go.RowKit Go.Proofs.Ytpkolfmdockdnaa.inv
set_option linter.unusedVariables false
set_option maxRecDepth 100000

/-- A context, as far as the law reads it. -/
structure Fx (w : World) (F pP pB : Nat) (x : Option Addr) (s : ByteArray) (lab : Int) : Prop where
  c0 : w.cell? ⟨F, 0, none⟩ = some (.pointer (some ⟨pP, 0, none⟩))
  c2 : w.cell? ⟨F, 2, none⟩ = some (.pointer x)
  c4 : w.cell? ⟨F, 4, none⟩ = some (.pointer (some ⟨pB, 0, none⟩))
  c7 : w.cell? ⟨F, 7, none⟩ = some (.int .i64 lab)
  f7 : w.frozen? ⟨F, 7, none⟩ = false
  pS : w.cell? ⟨pP, 0, none⟩ = some (.string s)
  pK : Blk w pP
  bK : Blk w pB
theorem Fx.below {w w' : World} {F pP pB : Nat} {x : Option Addr} {s : ByteArray} {lab : Int} (h : Fx w F pP pB x s lab) (b : Below w.heap.size w w') : Fx w' F pP pB x s lab :=
  ⟨(b.cell (cell_block_lt h.c0)).trans h.c0, (b.cell (cell_block_lt h.c2)).trans h.c2, (b.cell (cell_block_lt h.c4)).trans h.c4, (b.cell (cell_block_lt h.c7)).trans h.c7, (b.frozen (p := ⟨F, 7, none⟩) (cell_block_lt h.c7)).trans h.f7, (b.cell (cell_block_lt h.pS)).trans h.pS, h.pK.below b, h.bK.below b⟩
theorem Fx.set {w : World} {F pP pB : Nat} {x : Option Addr} {s : ByteArray} {lab : Int} (h : Fx w F pP pB x s lab) (l : Int) : Fx (w.setCell ⟨F, 7, none⟩ (.int .i64 l)) F pP pB x s l := by
  refine ⟨?_, ?_, ?_, World.cell?_setCell_same _ _ _ h.c7, ?_, ?_, h.pK.set _ _, h.bK.set _ _⟩
  · rw [World.cell?_setCell_other _ _ _ _ (by simp)]; exact h.c0
  · rw [World.cell?_setCell_other _ _ _ _ (by simp)]; exact h.c2
  · rw [World.cell?_setCell_other _ _ _ _ (by simp)]; exact h.c4
  · rw [World.frozen?_setCell]; exact h.f7
  · rw [World.cell?_setCell_other _ _ _ _ (by simp)]; exact h.pS
theorem Fx.other {w : World} {F pP pB : Nat} {x : Option Addr} {s : ByteArray} {lab : Int} (h : Fx w F pP pB x s lab) {F' : Nat} (n1 : F' ≠ F) (v : Value) : Fx (w.setCell ⟨F', 7, none⟩ v) F pP pB x s lab := by
  refine ⟨?_, ?_, ?_, ?_, ?_, ?_, h.pK.set _ _, h.bK.set _ _⟩
  · rw [World.cell?_setCell_other _ _ _ _ (by simp [n1])]; exact h.c0
  · rw [World.cell?_setCell_other _ _ _ _ (by simp [n1])]; exact h.c2
  · rw [World.cell?_setCell_other _ _ _ _ (by simp [n1])]; exact h.c4
  · rw [World.cell?_setCell_other _ _ _ _ (by simp [n1])]; exact h.c7
  · rw [World.frozen?_setCell]; exact h.f7
  · rw [World.cell?_setCell_other _ _ _ _ (by simp)]; exact h.pS
theorem Fx.lt {w : World} {F pP pB : Nat} {x : Option Addr} {s : ByteArray} {lab : Int} (h : Fx w F pP pB x s lab) : F < w.heap.size := cell_block_lt h.c0

theorem label_any (F : Nat) (lab : Int) (w : World) (c7 : w.cell? ⟨F, 7, none⟩ = some (.int .i64 lab)) (f7 : w.frozen? ⟨F, 7, none⟩ = false) (h0 : 0 ≤ lab) (h1 : lab ≤ 65540) :
    Calls Try.prog 10 #[.pointer (some ⟨F, 0, none⟩)] w fun e w' => e = .returned (.int .i64 lab) ∧ w' = w.setCell ⟨F, 7, none⟩ (.int .i64 (lab + 1)) := by
  go_enter Try.func10, Try.ntmps10
  go_wp2
  go_ret
  exact ⟨rfl, rfl⟩
theorem made_any (s : ByteArray) (x : Option Addr) (w : World) : Calls Try.prog 9 #[.string s, .pointer x] w fun e w' => ∃ F pP pB, e = .returned (.pointer (some ⟨F, 0, none⟩)) ∧ w.heap.size ≤ F ∧ w.heap.size ≤ pP ∧ w.heap.size ≤ pB ∧ pB < w'.heap.size ∧ Fx w' F pP pB x s 1 ∧ Below w.heap.size w w' := by
  go_enter Try.func9, Try.ntmps9
  go_wp2_with fail
  refine (fc_any s x w).mono ?_
  rintro e w1 ⟨F, pP, pC, pL, pB, m1, m2, sB, rfl, hF, hs, hr, _, hp, b⟩
  have X : Fx w1 F pP pB x s 1 := ⟨hr.cell (i := 0) (by simp), hr.cell (i := 2) (by simp), hr.cell (i := 4) (by simp), hr.cell (i := 7) (by simp), hr.frozen 7, hp.pS, hp.pK, hp.bK⟩
  have XX := Lib.hid X
  have g1 := hp.pGe
  have g2 := hp.bGe
  have g3 := hp.bK.lt
  clear X hr hp
  go_wp2_with fail
  go_ret
  exact ⟨F, pP, pB, rfl, hF, g1, g2, g3, XX.out, b⟩

theorem infoFC : (Try.prog.info? 34).map (·.size) = some 11 := by kernel_rfl
theorem infoFP : (Try.prog.info? 43).map (·.size) = some 15 := by kernel_rfl
theorem infoCB : (Try.prog.info? 63).map (·.size) = some 8 := by kernel_rfl

set_option maxHeartbeats 4000000 in
theorem main (s p : ByteArray) (u n : Nat) (w : World) (hs : s.size ≤ 524288) (hp : p.size ≤ 524288) (hu : u ≤ 65536) (hn : n ≤ 65536) :
    Calls Try.prog 3 #[.string s, .string p, .int .i64 u, .int .i64 n] w fun e w' => e = .returned (.bool true) ∧ Below w.heap.size w w' := by
  have d1 : decide ((u : Int) < 0) = false := by simp
  have d2 : decide ((n : Int) < 0) = false := by simp
  have d3 : decide ((65536 : Int) < (u : Int)) = false := by simp; omega
  have d4 : decide ((65536 : Int) < (n : Int)) = false := by simp; omega
  go_enter Try.func3, Try.ntmps3
  go_wp2_with (go_at_call 8; go_in)
  refine (made_any p none w).mono ?_
  rintro e w1 ⟨F, pP, pB, rfl, hF, hP, hB, hBl, X, b⟩
  have X1 := Lib.hid X
  clear X d1 d2 d3 d4
  go_wp2_with fail
  go_loopw [10] (fun i wr => ∃ k : Nat, k ≤ u ∧ i = .int .i64 k ∧ Hid (Fx wr F pP pB none p (1 + k)) ∧ pB < wr.heap.size ∧ Below w.heap.size w wr) (fun i _ => u - (intOf i).toNat)
  case atStart => exact ⟨0, Nat.zero_le _, rfl, X1, hBl, b⟩
  case round =>
    obtain ⟨k, hk, rfl, XK, hBl, hbel⟩ := hrel
    by_cases hlt : k < u
    · have hlt' : (k : Int) < (u : Int) := by omega
      go_wp2_with fail
      refine (label_any F (1 + k) wr XK.out.c7 XK.out.f7 (by omega) (by omega)).mono ?_
      rintro e w2 ⟨rfl, hw2⟩
      have XN : Hid (Fx w2 F pP pB none p (1 + ((k + 1 : Nat) : Int))) := by
        rw [hw2]
        have := XK.out.set (1 + (k : Int) + 1)
        rw [show (1 + ((k + 1 : Nat) : Int)) = 1 + (k : Int) + 1 by omega]
        exact Lib.hid this
      have sN : pB < w2.heap.size := by
        rw [hw2]
        simpa using hBl
      have bN : Below w.heap.size w w2 := by
        rw [hw2]
        exact hbel.setCell (p := ⟨F, 7, none⟩) hF _
      clear hw2
      go_wp2_with fail
      go_roundw
      case rel => exact ⟨k + 1, by omega, by go_num, XN, sN, bN⟩
      case measure => simp [intOf]; omega
    · obtain rfl : u = k := by omega
      go_wp2_with fail
      refine (made_any s (some ⟨F, 0, none⟩) wr).mono ?_
      rintro e w3 ⟨F', pP', pB', rfl, hF', hP', hB', hBl', X', b'⟩
      have hFl := XK.out.lt
      have hPl : pP < wr.heap.size := cell_block_lt XK.out.pS
      have XP := Lib.hid (XK.out.below b')
      have XC := Lib.hid X'
      have B3 := hbel.trans (b'.mono hbel.size)
      have y0 := XP.out.c0
      have y4 := XP.out.c4
      have yS := XP.out.pS
      have z0 := XC.out.c0
      have z2 := XC.out.c2
      have z4 := XC.out.c4
      have zS := XC.out.pS
      have ne1 : F' ≠ F := by omega
      have ne2 : pP' ≠ pP := by omega
      have ne3 : pB' ≠ pB := by omega
      have e1 : ∀ q, (binOp .neq 23 (.pointer (some ⟨F, 0, none⟩)) (.pointer (some ⟨F, 0, none⟩))).run Try.prog (w3.drewN q) = .ok (.bool false) (w3.drewN q) := by
        obtain ⟨j, hj, _⟩ := Option.map_eq_some_iff.1 infoFC
        exact fun q => Lib.run_neq_ptr_same _ _ Try.underlying23 hj
      have e2 : ∀ q, (binOp .eql 26 (.pointer (some ⟨pP', 0, none⟩)) (.pointer (some ⟨pP, 0, none⟩))).run Try.prog (w3.drewN q) = .ok (.bool false) (w3.drewN q) := by
        obtain ⟨j, hj, hs⟩ := Option.map_eq_some_iff.1 infoFP
        obtain ⟨_, _, k1⟩ := XC.out.pK
        obtain ⟨_, _, k2⟩ := XP.out.pK
        exact fun q => run_eql_ptr_other _ Try.underlying26 hj (by rw [hs]; decide) (fun h => ne2 (congrArg Addr.block h)) (by simpa using k1) (by simpa using k2)
      have e3 : ∀ q, (binOp .eql 29 (.pointer (some ⟨pB', 0, none⟩)) (.pointer (some ⟨pB, 0, none⟩))).run Try.prog (w3.drewN q) = .ok (.bool false) (w3.drewN q) := by
        obtain ⟨j, hj, hs⟩ := Option.map_eq_some_iff.1 infoCB
        obtain ⟨_, _, k1⟩ := XC.out.bK
        obtain ⟨_, _, k2⟩ := XP.out.bK
        exact fun q => run_eql_ptr_other _ Try.underlying29 hj (by rw [hs]; decide) (fun h => ne3 (congrArg Addr.block h)) (by simpa using k1) (by simpa using k2)
      clear X' b' XK
      go_wp2_with fail
      go_quiet (fail)
      go_wp2_with fail
      obtain ⟨w4, h4⟩ : ∃ v, w3.drewN nq = v := ⟨_, rfl⟩
      have b4 : Below w3.heap.size w3 w4 := by rw [← h4]; exact below_drewN (Below.refl _ _) _
      have XC4 : Fx w4 F' pP' pB' (some ⟨F, 0, none⟩) s (((0 : Nat) : Int) + 1) := XC.out.below b4
      have XP4 := XP.out.below b4
      have B4 := bel_trans B3 b4 B3.size
      have XCH := Lib.hid XC4
      have XPH := Lib.hid XP4
      rw [h4]
      have hF'' : w.heap.size ≤ F' := by have := hbel.size; omega
      clear h4 b4 XC4 XP4 XC XP e1 e2 e3 y0 y4 yS z0 z2 z4 zS
      go_loopw [12] (fun i wr => ∃ j : Nat, j ≤ n ∧ i = .int .i64 ((j : Int) + 1) ∧ Hid (Fx wr F' pP' pB' (some ⟨F, 0, none⟩) s ((j : Int) + 1)) ∧ Hid (Fx wr F pP pB none p (1 + (u : Int))) ∧ Below w.heap.size w wr) (fun i _ => n + 1 - (intOf i).toNat)
      case atStart => exact ⟨0, Nat.zero_le _, rfl, XCH, XPH, B4⟩
      case round =>
        obtain ⟨j, hj, rfl, XJ, XQ, hbq⟩ := hrel
        by_cases hjn : j < n
        · have hle : (j : Int) + 1 ≤ (n : Int) := by omega
          go_wp2_with fail
          refine (label_any F' ((j : Int) + 1) wr XJ.out.c7 XJ.out.f7 (by omega) (by omega)).mono ?_
          rintro e w5 ⟨rfl, hw5⟩
          have XN : Hid (Fx w5 F' pP' pB' (some ⟨F, 0, none⟩) s (((j + 1 : Nat) : Int) + 1)) := by
            rw [hw5]
            exact Lib.hid (XJ.out.set ((j : Int) + 1 + 1))
          have XM : Hid (Fx w5 F pP pB none p (1 + (u : Int))) := by
            rw [hw5]
            exact Lib.hid (XQ.out.other ne1 _)
          have bN : Below w.heap.size w w5 := by
            rw [hw5]
            exact hbq.setCell (p := ⟨F', 7, none⟩) hF'' _
          clear hw5
          go_wp2_with fail
          go_roundw
          case rel => exact ⟨j + 1, by omega, by go_num, XN, XM, bN⟩
          case measure => simp [intOf]; omega
        · obtain rfl : n = j := by omega
          have hle : decide ((n : Int) + 1 ≤ (n : Int)) = false := by simp; omega
          go_wp2_with fail
          refine (label_any F (1 + (u : Int)) wr XQ.out.c7 XQ.out.f7 (by omega) (by omega)).mono ?_
          rintro e w5 ⟨rfl, hw5⟩
          have bN : Below w.heap.size w w5 := by
            rw [hw5]
            exact hbq.setCell (p := ⟨F, 7, none⟩) hF _
          clear hw5
          have heq : ((1 : Int) + (u : Int) == (u : Int) + 1) = true := by simp; omega
          go_wp2_with fail
          go_ret
          exact ⟨rfl, bN⟩

set_option maxHeartbeats 1000000 in
theorem walk (a0 : ByteArray) (a1 : ByteArray) (a2 a3 : Int) (w : World) (w0 : a0.size ≤ maxLen) (w1 : a1.size ≤ maxLen) (w2 : (Lit.int .i64 a2).wf = true) (w3 : (Lit.int .i64 a3).wf = true) :
    Calls Try.prog 3 #[.string a0, .string a1, .int .i64 a2, .int .i64 a3] w fun e w' => e = .returned (.bool true) ∧ Below w.heap.size w w' := by
  unfold maxLen at w0 w1
  have b2 := i64_bd w2
  have b3 := i64_bd w3
  by_cases g0 : (1048576 : Int) < (a0.size : Int)
  · skip
    go_enter Try.func3, Try.ntmps3
    go_wp2_with (go_at_call 8; go_in)
    all_goals (go_ret; exact ⟨rfl, Below.refl _ _⟩)
  by_cases g1 : (1048576 : Int) < (a1.size : Int)
  · skip
    go_enter Try.func3, Try.ntmps3
    go_wp2_with (go_at_call 8; go_in)
    all_goals (go_ret; exact ⟨rfl, Below.refl _ _⟩)
  by_cases g2 : (1048576 : Int) < (a0.size : Int) + (a1.size : Int)
  · skip
    go_enter Try.func3, Try.ntmps3
    go_wp2_with (go_at_call 8; go_in)
    all_goals (go_ret; exact ⟨rfl, Below.refl _ _⟩)
  by_cases g3 : (524288 : Int) < (a0.size : Int)
  · skip
    go_enter Try.func3, Try.ntmps3
    go_wp2_with (go_at_call 8; go_in)
    all_goals (go_ret; exact ⟨rfl, Below.refl _ _⟩)
  by_cases g4 : (524288 : Int) < (a1.size : Int)
  · skip
    go_enter Try.func3, Try.ntmps3
    go_wp2_with (go_at_call 8; go_in)
    all_goals (go_ret; exact ⟨rfl, Below.refl _ _⟩)
  by_cases g5 : a2 < 0
  · skip
    go_enter Try.func3, Try.ntmps3
    go_wp2_with (go_at_call 8; go_in)
    all_goals (go_ret; exact ⟨rfl, Below.refl _ _⟩)
  by_cases g6 : (65536 : Int) < a2
  · skip
    go_enter Try.func3, Try.ntmps3
    go_wp2_with (go_at_call 8; go_in)
    all_goals (go_ret; exact ⟨rfl, Below.refl _ _⟩)
  by_cases g7 : a3 < 0
  · skip
    go_enter Try.func3, Try.ntmps3
    go_wp2_with (go_at_call 8; go_in)
    all_goals (go_ret; exact ⟨rfl, Below.refl _ _⟩)
  by_cases g8 : (65536 : Int) < a3
  · skip
    go_enter Try.func3, Try.ntmps3
    go_wp2_with (go_at_call 8; go_in)
    all_goals (go_ret; exact ⟨rfl, Below.refl _ _⟩)
  obtain ⟨u, rfl⟩ := Int.eq_ofNat_of_zero_le (show 0 ≤ a2 by omega)
  obtain ⟨n, rfl⟩ := Int.eq_ofNat_of_zero_le (show 0 ≤ a3 by omega)
  exact main a0 a1 u n w (by omega) (by omega) (by omega) (by omega)
end Go.Proofs.Ytpkolfmdockdnaa.fnNewFuncContextChildLabelsCountFromOne
