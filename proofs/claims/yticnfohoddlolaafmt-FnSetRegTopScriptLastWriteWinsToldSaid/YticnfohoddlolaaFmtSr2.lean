/- The walk of FnSetRegTopScriptLastWriteWins: the Go text returns true and writes nothing that was there. -/
import Derived.Test.YticnfohoddlolaaFmtEr
namespace Go.Proofs.YticnfohoddlolaaFmt.fnSetRegTopScriptLastWriteWins
open Go.ChangeShapes Go.WideShapes Go.ChangeAt Go.RowKit
set_option linter.unusedVariables false
set_option maxRecDepth 100000

set_option maxHeartbeats 2000000 in
theorem main (a0 : Int) (a : Option Addr) (len cap : Nat) (z : List Int) (w : World) (r0 : IsRow (.int .i64) 0 w a len cap z) (hl : len ≤ 65536) :
    Calls Tryf.prog 6 #[.int .i64 a0, .slice a len cap] w fun e w' => e = .returned (.bool true) ∧ Below w.heap.size w w' := by
  have l0 := Lib.hid r0.1
  have hm : decide ((1048576 : Int) < 8 * (len : Int)) = false := by simp; omega
  have R0 := Lib.hid r0
  clear r0
  go_enter Tryf.func6, Tryf.ntmps6
  go_wp2_with (go_at_call 26; go_in)
  go_loopw [5] (fun i wr => ∃ k : Nat, k ≤ len ∧ i = .int .i64 k ∧ Hid (∀ j, j < k → z.getD j 0 ≤ 200) ∧ w = wr) (fun i _ => len - (intOf i).toNat)
  case atStart => exact ⟨0, Nat.zero_le _, rfl, Lib.hid (fun j hj => by omega), rfl⟩
  case round =>
    obtain ⟨k, hk, rfl, BD, rfl⟩ := hrel
    by_cases hlt : k < len
    · obtain ⟨b0, off0, hx0, hb0, hc0⟩ := row_some R0.out (by omega)
      obtain ⟨x, hx⟩ : ∃ x, z.getD k 0 = x := ⟨_, rfl⟩
      have hcell : w.cell? ⟨b0, off0 + k, none⟩ = some (.int .i64 x) := by rw [← hx]; exact hc0 k hlt
      have HXX := Lib.hid hx
      have HX0 := Lib.hid hx0
      rw [hx0]
      clear hx hx0 hc0
      have hlt' : (k : Int) < (len : Int) := by omega
      by_cases c1 : 200 < x
      · go_wp2_with fail
        go_ret
        exact ⟨rfl, Below.refl _ _⟩
      have c1' : decide (200 < x) = false := by simpa using c1
      go_wp2_with fail
      go_roundw
      case rel =>
        refine ⟨k + 1, by omega, by go_num, Lib.hid (fun j hj => ?_), by first | rfl | trivial⟩
        by_cases e : j < k
        · exact BD.out j e
        · obtain rfl : j = k := by omega
          rw [HXX.out]
          omega
      case measure => simp [intOf]; omega
    · obtain rfl : len = k := by omega
      go_wp2_with fail
      refine (cloneInt_any _ _ _ z _ R0.out (by omega)).mono ?_
      rintro e w1 C
      obtain ⟨d, rfl, g1, rg1, B⟩ := C.rng
      have G1 := Lib.hid g1
      have s1 := B.size
      clear C g1
      go_wp2_with fail
      refine (newFC_any false 0 none none none none none 0 0 0 0 0 0 0 0 0 0 0 a0 _ (by omega) (by omega) (by omega) (by omega) (by omega)).mono ?_
      rintro e w2 ⟨rfl, F, T, sz, b2⟩
      have FH := Lib.hid F
      have G2 := Lib.hid (got_below G1.out b2)
      have B2 := bel_trans B b2 s1
      have s2 := b2.size
      obtain ⟨h, hh⟩ : ∃ h, w1.heap.size = h := ⟨_, rfl⟩
      rw [hh] at FH sz ⊢
      have wh : w.heap.size ≤ h := by omega
      have RG := Lib.hid (show ∀ x, d = some x → x.block < h from fun x hx => by have := (rg1 x hx).2; omega)
      clear F T b2 G1 hh rg1
      go_wp2_with fail
      go_loopw [7, 8] (fun c i wr => ∃ (k : Nat) (t : Int), k ≤ len ∧ i = .int .i64 k ∧ c = .int .i64 t ∧ Hid (FC0 wr h false 0 none 0 0 none 0 0 0 none 0 0 (h + 3) t) ∧ Hid (Got w.heap.size wr d 3 len (fun i => .int .i64 (z.getD i 0))) ∧ Below w.heap.size w wr) (fun _ i _ => len - (intOf i).toNat)
      case atStart => exact ⟨0, a0, Nat.zero_le _, rfl, rfl, FH, G2, B2⟩
      case round =>
        obtain ⟨k, t, hk, rfl, rfl, FK, GK, BK⟩ := hrel
        by_cases hlt : k < len
        · obtain ⟨xd, hxd, hBd, hrd⟩ := got_pos GK.out (by omega)
          have hxl : xd < h := by have := RG.out _ hxd; simpa using this
          obtain ⟨x, hx⟩ : ∃ x, z.getD k 0 = x := ⟨_, rfl⟩
          have hcell : wr.cell? ⟨xd, k, none⟩ = some (.int .i64 x) := by rw [← hx]; exact hrd.cell (i := k) hlt
          have hx2 : x ≤ 200 := by rw [← hx]; exact BD.out k hlt
          have HXD := Lib.hid hxd
          rw [hxd]
          clear hx hxd hrd
          have hlt' : (k : Int) < (len : Int) := by omega
          go_wp2_with fail
          refine (regTop_any _ FK.out).mono ?_
          rintro e w' ⟨rfl, rfl⟩
          go_wp2_with fail
          refine (setRegTop_any x _ FK.out hx2).mono ?_
          rintro e w3 ⟨rfl, hw3⟩
          have F3 := Lib.hid (FK.out.setRt x)
          have G3 := Lib.hid (got_of GK.out (w' := wr.setCell ⟨h + 9, 6, none⟩ (.int .i64 x)) (fun y hy hl => Below.heap_setCell _ _ _ _ (show y.block ≠ h + 9 by have := RG.out y hy; omega)))
          have B3 := BK.setCell (p := ⟨h + 9, 6, none⟩) (show w.heap.size ≤ h + 9 by omega) (.int .i64 x)
          have c3 : (wr.setCell ⟨h + 9, 6, none⟩ (.int .i64 x)).cell? ⟨xd, k, none⟩ = some (.int .i64 x) := by
            rw [World.cell?_of_block (Below.heap_setCell _ _ _ _ (show xd ≠ h + 9 by omega))]
            exact hcell
          rw [hw3] at F3 G3 B3 c3
          clear hw3 FK GK hcell
          go_wp2_with fail
          go_roundw
          case rel => exact ⟨k + 1, x, by omega, by go_num, rfl, F3, by (have G := G3; rw [HXD.out] at G; exact G), B3⟩
          case measure => simp [intOf]; omega
        · obtain rfl : len = k := by omega
          go_wp2_with fail
          refine (regTop_any _ FK.out).mono ?_
          rintro e w' ⟨rfl, rfl⟩
          go_wp2_with fail
          go_ret
          exact ⟨rfl, BK⟩

set_option maxHeartbeats 1000000 in
theorem walk (a0 : Int) (a1 : Option Addr) (len1 cap1 : Nat) (z1 : List Int) (w : World) (w0 : (Lit.int .i64 a0).wf = true) (r1 : IsRow (.int .i64) 0 w a1 len1 cap1 z1) (w1 : ∀ z ∈ z1, (Lit.int .i64 z).wf = true) :
    Calls Tryf.prog 6 #[.int .i64 a0, .slice a1 len1 cap1] w fun e w' => e = .returned (.bool true) ∧ Below w.heap.size w w' := by
  have hv0 := i64_bd w0
  have m0 := r1.2.1
  have m0' := r1.2.2.1
  unfold maxLen at m0'
  by_cases g1 : (1048576 : Int) < (len1 : Int)
  · clear r1
    go_enter Tryf.func6, Tryf.ntmps6
    go_wp2_with (go_at_call 26; go_in)
    all_goals (go_ret; exact ⟨rfl, Below.refl _ _⟩)
  by_cases g2 : (65536 : Int) < (len1 : Int)
  · clear r1
    go_enter Tryf.func6, Tryf.ntmps6
    go_wp2_with (go_at_call 26; go_in)
    all_goals (go_ret; exact ⟨rfl, Below.refl _ _⟩)
  exact main a0 a1 len1 cap1 z1 w r1 (by omega)
end Go.Proofs.YticnfohoddlolaaFmt.fnSetRegTopScriptLastWriteWins
