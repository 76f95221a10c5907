/- The walk of FnGetStackTailCallShiftsLevels: the Go text returns true and writes nothing that was there. -/
import Derived.Test.YtbpkncpkgmehiaaGa
import Derived.Test.YtbpkncpkgmehiaaGb
import Derived.Test.YtbpkncpkgmehiaaCloneInt
import Derived.Test.YtbpkncpkgmehiaaCloneBool
namespace Go.Proofs.Ytbpkncpkgmehiaa.fnGetStackTailCallShiftsLevels
open Go.ChangeShapes Go.WideShapes Go.ChangeAt Go.RowKit Go.Proofs.Ytbpkncpkgmehiaa.gs
set_option linter.unusedVariables false
set_option maxRecDepth 100000

set_option maxHeartbeats 4000000 in
theorem main (a0 : Option Addr) (n0 c0 : Nat) (z0 : List Bool) (a1 : Option Addr) (n1 c1 : Nat) (z1 : List Int) (level : Int) (w : World) (r0 : IsRow .bool false w a0 n0 c0 z0) (r1 : IsRow (.int .i64) 0 w a1 n1 c1 z1) (w1 : ∀ z ∈ z1, (Lit.int .i64 z).wf = true) (w2 : -9223372036854775808 ≤ level ∧ level ≤ 9223372036854775807) (hn0 : n0 ≤ 4096) (hn1 : n1 ≤ 4096) :
    Calls Try.prog 3 #[.slice a0 n0 c0, .slice a1 n1 c1, .int .i64 level] w fun e w' => e = .returned (.bool true) ∧ Below w.heap.size w w' := by
  have l0 := Lib.hid r0.1
  have l1 := Lib.hid r1.1
  have R0 := Lib.hid r0
  have R1 := Lib.hid r1
  have W1 := Lib.hid w1
  clear r0 r1 w1
  go_enter Try.func3, Try.ntmps3
  go_wp2_with (go_at_call 7; go_in)
  refine (fit_any _ _ n0 n1 c0 c1 z1 w R1.out W1.out (by omega) hn1).mono ?_
  rintro e w' ⟨r, rfl, hr, rfl⟩
  cases r with
  | false =>
    clear hr
    go_wp2_with fail
    go_ret
    exact ⟨rfl, Below.refl _ _⟩
  | true =>
    obtain ⟨rfl, F⟩ := hr rfl
    have FT := Lib.hid F
    clear F hr
    by_cases hd0 : n1 = 0
    · subst hd0
      go_wp2_with fail
      go_ret
      exact ⟨rfl, Below.refl _ _⟩
    obtain ⟨m, rfl⟩ : ∃ m, n1 = m + 1 := ⟨n1 - 1, by omega⟩
    obtain ⟨bg, og, hxg, hbg, hcg⟩ := R0.out.2.2.2.2 (by omega)
    obtain ⟨vg, hvg⟩ : ∃ v, z0.getD m false = v := ⟨_, rfl⟩
    have hcg' := hcg m (by omega)
    rw [hvg] at hcg'
    have HVG := Lib.hid hvg
    have HXG := Lib.hid hxg
    rw [hxg]
    clear hcg hvg hxg
    have hm1 : (m : Int) < (m : Int) + 1 := by omega
    have hz1 : ((m : Int) + 1 == 0) = false := by simp; omega
    cases vg with
    | true =>
      go_wp2_with fail
      go_ret
      exact ⟨rfl, Below.refl _ _⟩
    | false =>
      by_cases hL1 : level < 1
      · go_wp2_with fail
        go_ret
        exact ⟨rfl, Below.refl _ _⟩
      by_cases hL2 : level = 9223372036854775807
      · subst hL2
        go_wp2_with fail
        go_ret
        exact ⟨rfl, Below.refl _ _⟩
      have d1 : decide (level < 1) = false := by simpa using hL1
      have d2 : (level == 9223372036854775807) = false := by simpa using hL2
      go_wp2_with fail
      rw [← HXG.out]
      clear hcg' hbg
      refine (cloneBool_any _ _ _ z0 _ R0.out (by omega)).mono ?_
      rintro e w3 C
      obtain ⟨G, rfl, qG, lG, RG, bG⟩ := C.pos (by omega)
      have r1 := Lib.hid (row_below R1.out bG)
      have RGH := Lib.hid RG
      clear C RG
      go_wp2_with fail
      refine (cloneInt_any _ _ _ z1 _ r1.out (by omega)).mono ?_
      rintro e w4 C
      obtain ⟨T, rfl, qT, lT, RT, bT⟩ := C.pos (by omega)
      have RG4 := Lib.hid (rowIs_below bT lG RGH.out)
      have RTH := Lib.hid RT
      have B4 := bel_trans bG bT bG.size
      clear C RT RGH
      go_wp2_with fail
      refine (cloneInt_any _ _ _ z1 _ (rowIs_row RTH.out l1.out (by omega)) (by omega)).mono ?_
      rintro e w5 C
      obtain ⟨T2, rfl, qT2, lT2, RT2, bT2⟩ := C.pos (by omega)
      have sz4 := bT.size
      have RG5 := Lib.hid (rowIs_below bT2 (by omega) RG4.out)
      have RT5 := Lib.hid (rowIs_below bT2 lT RTH.out)
      have RT25 := Lib.hid RT2
      have B5 := bel_trans B4 bT2 B4.size
      have sz3 := bG.size
      clear C RT2 RG4 RTH bT2 bT bG
      obtain ⟨t, ht⟩ : ∃ v, z1.getD m 0 = v := ⟨_, rfl⟩
      have c2 : w5.cell? ⟨T2, m, none⟩ = some (.int .i64 t) := by rw [← ht]; exact RT25.out.cell (i := m) (by omega)
      have f2 := RT25.out.frozen m
      have tb := FT.out m (by omega)
      rw [ht] at tb
      have HT := Lib.hid ht
      clear ht
      go_wp2_with fail
      have GT : G ≠ T2 := by omega
      have TT : T ≠ T2 := by omega
      have RG6 := Lib.hid (RG5.out.setOther (a := ⟨T2, m, none⟩) GT (.int .i64 (t + 1)))
      have RT6 := Lib.hid (RT5.out.setOther (a := ⟨T2, m, none⟩) TT (.int .i64 (t + 1)))
      have RT26 := Lib.hid (row_store RT25.out m (t + 1) l1.out (by omega))
      have B6 := B5.setCell (p := ⟨T2, m, none⟩) (show w.heap.size ≤ T2 by have := B4.size; omega) (.int .i64 (t + 1))
      obtain ⟨w6, h6⟩ : ∃ v, w5.setCell ⟨T2, m, none⟩ (.int .i64 (t + 1)) = v := ⟨_, rfl⟩
      rw [h6] at RG6 RT6 RT26 B6 ⊢
      clear h6 RG5 RT5 RT25 c2 f2 GT TT
      have E1 : ∀ i, i < m + 1 → 0 ≤ z1.getD i 0 ∧ z1.getD i 0 ≤ 65537 := fun i hi => by
        have := FT.out i hi
        omega
      have E2 : ∀ i, i < m → (z1.set m (t + 1)).getD i 0 = z1.getD i 0 := fun i hi => by
        simp [List.getD, List.getElem?_set_ne (show m ≠ i by omega)]
      have E3 : (z1.set m (t + 1)).getD m 0 = z1.getD m 0 + 1 := by
        have hl := l1.out
        rw [HT.out]
        simp [List.getD, hl]
      have E4 : ∀ i, i < m + 1 → 0 ≤ (z1.set m (t + 1)).getD i 0 ∧ (z1.set m (t + 1)).getD i 0 ≤ 65537 := fun i hi => by
        by_cases e : i = m
        · subst e
          rw [E3, HT.out]
          omega
        · rw [E2 i (by omega)]
          exact E1 i hi
      have SH : run (fun i => z0.getD i false) (fun i => (z1.set m (t + 1)).getD i 0) (m + 1) (level + 1) = run (fun i => z0.getD i false) (fun i => z1.getD i 0) (m + 1) level :=
        run_shift _ _ _ m level (by omega) HVG.out E3 E2
      have EE1 := Lib.hid E1
      have EE4 := Lib.hid E4
      have SHH := Lib.hid SH
      have lz : (z1.set m (t + 1)).length = m + 1 := by rw [List.length_set]; exact l1.out
      have LZ := Lib.hid lz
      clear E1 E2 E3 E4 SH lz
      refine (build_any _ _ (m + 1) (m + 1) (m + 1) z0 z1 _ (rowIs_row RG6.out l0.out (by omega)) (rowIs_row RT6.out l1.out (by omega)) hn1 EE1.out).mono ?_
      rintro e w7 ⟨CS, FB, LS, rfl, S1, b7⟩
      have RG7 := Lib.hid (rowIs_below b7 RG6.out.lt RG6.out)
      have RT27 := Lib.hid (rowIs_below b7 RT26.out.lt RT26.out)
      have B7 := bel_trans B6 b7 B6.size
      have S17 := Lib.hid S1
      clear S1 b7 RG6 RT6 RT26
      go_wp2_with fail
      refine (build_any _ _ (m + 1) (m + 1) (m + 1) z0 (z1.set m (t + 1)) _ (rowIs_row RG7.out l0.out (by omega)) (rowIs_row RT27.out LZ.out (by omega)) hn1 EE4.out).mono ?_
      rintro e w8 ⟨CS2, FB2, LS2, rfl, S2, b8⟩
      have S18 := Lib.hid (S17.out.below b8)
      have B8 := bel_trans B7 b8 B7.size
      have S28 := Lib.hid S2
      clear S2 b8 RG7 RT27 S17
      go_wp2_with fail
      refine (answer_any CS FB LS (m + 1) _ _ level _ S18.out (by omega) (by omega) (by omega) EE1.out).mono ?_
      rintro e w9 ⟨rfl, b9⟩
      have S29 := Lib.hid (S28.out.below b9)
      have B9 := bel_trans B8 b9 B8.size
      clear b9 S28 S18
      obtain ⟨A, hA⟩ : ∃ v, ans (run (fun i => z0.getD i false) (fun i => z1.getD i 0) (m + 1) level) = v := ⟨_, rfl⟩
      rw [hA]
      have HA := Lib.hid hA
      clear hA
      have hw1 : level + 1 ≤ 9223372036854775807 := by omega
      go_wp2_with fail
      refine (answer_any CS2 FB2 LS2 (m + 1) _ _ (level + 1) _ S29.out (by omega) (by omega) hw1 EE4.out).mono ?_
      rintro e w10 ⟨rfl, b10⟩
      have B10 := bel_trans B9 b10 B9.size
      rw [SHH.out, HA.out]
      clear b10 S29
      cases A with
      | none =>
        simp only [idxOf, Option.isSome_none]
        go_wp2_with fail
        go_ret
        exact ⟨rfl, B10⟩
      | some i =>
        simp only [idxOf, Option.isSome_some]
        go_wp2_with fail
        go_ret
        exact ⟨rfl, B10⟩

set_option maxHeartbeats 1000000 in
theorem walk (a0 : Option Addr) (len0 cap0 : Nat) (z0 : List Bool) (a1 : Option Addr) (len1 cap1 : Nat) (z1 : List Int) (a2 : Int) (w : World) (r0 : IsRow .bool false w a0 len0 cap0 z0) (w0 : ∀ z ∈ z0, True) (r1 : IsRow (.int .i64) 0 w a1 len1 cap1 z1) (w1 : ∀ z ∈ z1, (Lit.int .i64 z).wf = true) (w2 : (Lit.int .i64 a2).wf = true) :
    Calls Try.prog 3 #[.slice a0 len0 cap0, .slice a1 len1 cap1, .int .i64 a2] w fun e w' => e = .returned (.bool true) ∧ Below w.heap.size w w' := by
  have m0 := r0.2.1
  have m0' := r0.2.2.1
  have m1 := r1.2.1
  have m1' := r1.2.2.1
  unfold maxLen at m0' m1'
  by_cases g1 : (1048576 : Int) < (len0 : Int)
  · clear r0 r1
    go_enter Try.func3, Try.ntmps3
    go_wp2_with (go_at_call 7; go_in)
    all_goals (go_ret; exact ⟨rfl, Below.refl _ _⟩)
  by_cases g2 : (1048576 : Int) < (len1 : Int)
  · clear r0 r1
    go_enter Try.func3, Try.ntmps3
    go_wp2_with (go_at_call 7; go_in)
    all_goals (go_ret; exact ⟨rfl, Below.refl _ _⟩)
  by_cases g3 : (1048576 : Int) < (len0 : Int) + (len1 : Int)
  · clear r0 r1
    go_enter Try.func3, Try.ntmps3
    go_wp2_with (go_at_call 7; go_in)
    all_goals (go_ret; exact ⟨rfl, Below.refl _ _⟩)
  by_cases g4 : (4096 : Int) < (len0 : Int)
  · clear r0 r1
    go_enter Try.func3, Try.ntmps3
    go_wp2_with (go_at_call 7; go_in)
    all_goals (go_ret; exact ⟨rfl, Below.refl _ _⟩)
  by_cases g5 : (4096 : Int) < (len1 : Int)
  · clear r0 r1
    go_enter Try.func3, Try.ntmps3
    go_wp2_with (go_at_call 7; go_in)
    all_goals (go_ret; exact ⟨rfl, Below.refl _ _⟩)
  exact main a0 len0 cap0 z0 a1 len1 cap1 z1 a2 w r0 r1 w1 (i64_bd w2) (by omega) (by omega)
end Go.Proofs.Ytbpkncpkgmehiaa.fnGetStackTailCallShiftsLevels
