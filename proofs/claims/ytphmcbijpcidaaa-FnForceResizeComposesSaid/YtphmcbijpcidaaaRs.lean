/- buildReg, slotsMatch, checkSize and the doors of n005_56. -/
import Derived.Test.YtphmcbijpcidaaaRf
import Derived.Test.YtphmcbijpcidaaaCloneF64
namespace Go.Proofs.Ytphmcbijpcidaaa
open Go.ChangeShapes Go.WideShapes Go.ChangeAt Go.RowKit
set_option linter.unusedVariables false
section
variable {h g r n : Nat} {gb mx : Int} {z : List Nat} {k : Nat} {hit : Bool}

/-- Behind a growing: a new array at g'. -/
def Grown (h r m : Nat) (gb mx : Int) (z : List Nat) (k : Nat) (hit : Bool) (w : World) (e : Ending) (w' : World) : Prop :=
  e = .returned (.tuple #[]) ∧ ∃ g', w.heap.size ≤ g' ∧ g' < w'.heap.size ∧ Reg w' h g' r m k gb mx z (min k m) hit ∧ w.heap.size ≤ w'.heap.size ∧ Below r w w'
/-- Behind a refusal. -/
def Refused (h g r n : Nat) (gb mx : Int) (z : List Nat) (k : Nat) (w : World) (e : Ending) (w' : World) : Prop :=
  e = .returned (.tuple #[]) ∧ Reg w' h g r n k gb mx z k true ∧ w.heap.size = w'.heap.size ∧ Below h w w'

theorem zzForce_any (m : Nat) (w : World) (R : Reg w h g r n k gb mx z k hit) (hk : k ≤ n) (hn : n ≤ 1048576) (hm : m ≤ 1048576) (hh : h ≠ r) (hg : g ≠ r) :
    Calls Try.prog 13 #[.pointer (some ⟨r, 0, none⟩), .int .i64 m] w (Grown h r m gb mx z k hit w) := by
  go_enter Try.func13, Try.ntmps13
  go_wp2_with fail
  refine (force_any m _ R hk hn hm hh hg).mono ?_
  rintro e w1 ⟨rfl, q⟩
  have Q := Lib.hid q
  clear q
  go_wp2_with fail
  go_end0
  exact ⟨rfl, Q.out⟩
theorem zzResizeNo_any (q : Int) (w : World) (R : Reg w h g r n k gb mx z k hit) (hh : h ≠ r) (hg : g ≠ h) (hq0 : 0 ≤ q) (hq : q ≤ 65536) (hgb : 0 ≤ gb) (hgb2 : gb ≤ 65536) (hmx : mx < q) (hmx0 : 0 ≤ mx) :
    Calls Try.prog 26 #[.pointer (some ⟨r, 0, none⟩), .int .i64 q] w (Refused h g r n gb mx z k w) := by
  go_enter Try.func26, Try.ntmps26
  go_wp2_with fail
  refine (resizeNo_any q _ R hh hg hq0 hq hgb hgb2 hmx hmx0).mono ?_
  rintro e w1 ⟨rfl, q⟩
  have Q := Lib.hid q
  clear q
  go_wp2_with fail
  go_end0
  exact ⟨rfl, Q.out⟩
theorem zzResizeYes_any (q : Int) (m : Nat) (w : World) (R : Reg w h g r n k gb mx z k hit) (hk : k ≤ n) (hn : n ≤ 1048576) (hh : h ≠ r) (hg : g ≠ r) (hq0 : 0 ≤ q) (hq : q ≤ 65536) (hgb : 0 ≤ gb) (hgb2 : gb ≤ 65536) (hmx : q ≤ mx) (hmx0 : mx ≤ 65536) (hm : (m : Int) = min (q + gb) mx) :
    Calls Try.prog 26 #[.pointer (some ⟨r, 0, none⟩), .int .i64 q] w (Grown h r m gb mx z k hit w) := by
  have HM := Lib.hid hm
  clear hm
  go_enter Try.func26, Try.ntmps26
  go_wp2_with fail
  refine (resizeYes_any q m _ R hk hn hh hg hq0 hq hgb hgb2 hmx hmx0 HM.out).mono ?_
  rintro e w1 ⟨rfl, q⟩
  have Q := Lib.hid q
  clear q
  go_wp2_with fail
  go_end0
  exact ⟨rfl, Q.out⟩
theorem checkFit_any (q : Int) (w : World) (R : Reg w h g r n k gb mx z k hit) (hq : q ≤ n) :
    Calls Try.prog 22 #[.pointer (some ⟨r, 0, none⟩), .int .i64 q] w fun e w' => e = .returned (.tuple #[]) ∧ w = w' := by
  have c0 : w.cell? ⟨r, 0, none⟩ = some (.slice (some ⟨g, 0, none⟩) n n) := R.rg.cell (i := 0) (by omega)
  have hd : decide ((n : Int) < q) = false := by simp; omega
  go_enter Try.func22, Try.ntmps22
  go_wp2
  go_end0
  go_wp2
  go_end0
  exact ⟨rfl, rfl⟩
theorem checkNo_any (q : Int) (w : World) (R : Reg w h g r n k gb mx z k hit) (hh : h ≠ r) (hg : g ≠ h) (hq1 : (n : Int) < q) (hq : q ≤ 65536) (hgb : 0 ≤ gb) (hgb2 : gb ≤ 65536) (hmx : mx < q) (hmx0 : 0 ≤ mx) :
    Calls Try.prog 22 #[.pointer (some ⟨r, 0, none⟩), .int .i64 q] w (Refused h g r n gb mx z k w) := by
  have c0 : w.cell? ⟨r, 0, none⟩ = some (.slice (some ⟨g, 0, none⟩) n n) := R.rg.cell (i := 0) (by omega)
  go_enter Try.func22, Try.ntmps22
  go_wp2_with (go_at_call 36; go_in)
  refine (resizeNo_any q _ R hh hg (by omega) hq hgb hgb2 hmx hmx0).mono ?_
  rintro e w1 ⟨rfl, q⟩
  have Q := Lib.hid q
  clear q
  go_wp2_with fail
  go_end0
  go_wp2_with fail
  go_end0
  exact ⟨rfl, Q.out⟩
theorem checkYes_any (q : Int) (m : Nat) (w : World) (R : Reg w h g r n k gb mx z k hit) (hk : k ≤ n) (hn : n ≤ 1048576) (hh : h ≠ r) (hg : g ≠ r) (hq1 : (n : Int) < q) (hq : q ≤ 65536) (hgb : 0 ≤ gb) (hgb2 : gb ≤ 65536) (hmx : q ≤ mx) (hmx0 : mx ≤ 65536) (hm : (m : Int) = min (q + gb) mx) :
    Calls Try.prog 22 #[.pointer (some ⟨r, 0, none⟩), .int .i64 q] w (Grown h r m gb mx z k hit w) := by
  have HM := Lib.hid hm
  clear hm
  have c0 : w.cell? ⟨r, 0, none⟩ = some (.slice (some ⟨g, 0, none⟩) n n) := R.rg.cell (i := 0) (by omega)
  go_enter Try.func22, Try.ntmps22
  go_wp2_with (go_at_call 36; go_in)
  refine (resizeYes_any q m _ R hk hn hh hg (by omega) hq hgb hgb2 hmx hmx0 HM.out).mono ?_
  rintro e w1 ⟨rfl, q⟩
  have Q := Lib.hid q
  clear q
  go_wp2_with fail
  go_end0
  go_wp2_with fail
  go_end0
  exact ⟨rfl, Q.out⟩

theorem buildReg_any (a : Option Addr) (len cap : Nat) (w : World) (r0 : IsRow (.float .f64) 0 w a len cap z) (hn : n ≤ 1048576) (hl : len ≤ n) :
    Calls Try.prog 12 #[.int .i64 n, .int .i64 gb, .int .i64 mx, .slice a len cap] w fun e w' => ∃ h g r, e = .returned (.pointer (some ⟨r, 0, none⟩)) ∧ w.heap.size ≤ h ∧ h < g ∧ g < r ∧ r < w'.heap.size ∧ Reg w' h g r n len gb mx z len false ∧ Below w.heap.size w w' := by
  have hc := r0.2.2.2.2
  go_enter Try.func12, Try.ntmps12
  go_wp2_with fail
  refine (newReg_any n gb mx w hn).mono ?_
  rintro e w1 ⟨h, g, r, rfl, q1, q2, q3, q4, R, B⟩
  have R0 : Reg w1 h g r n 0 gb mx z 0 false := ⟨R.fl, R.ar.congr fun i _ => by simp [slot], R.rg⟩
  clear R
  have RR := Lib.hid R0
  clear R0
  go_wp2_with fail
  go_loopw [10] (fun i wr => ∃ k : Nat, k ≤ len ∧ i = .int .i64 k ∧ Hid (Reg wr h g r n 0 gb mx z k false) ∧ wr.heap.size = w1.heap.size ∧ Below w.heap.size w wr) (fun i _ => len - (intOf i).toNat)
  case atStart => exact ⟨0, Nat.zero_le _, rfl, RR, rfl, B⟩
  case round =>
    obtain ⟨k, hk, rfl, RK, hs, hbel⟩ := hrel
    by_cases hlt : k < len
    · obtain ⟨b, off, hx, hbl, hcl⟩ := hc (by omega)
      obtain ⟨v, hv⟩ : ∃ v, z.getD k 0 = v := ⟨_, rfl⟩
      have hcs : wr.cell? ⟨b, off + k, none⟩ = some (.float .f64 v) := by rw [← hv]; exact (hbel.cell (p := ⟨b, off + k, none⟩) hbl).trans (hcl k hlt)
      have HX := Lib.hid hx
      rw [hx]
      clear hx hcl
      have HV := Lib.hid hv
      clear hv
      have hlt' : (k : Int) < (len : Int) := by omega
      go_wp2_with fail
      refine (setSlot_any v _ RK.out HV.out (by omega) (by omega) (by omega)).mono ?_
      rintro e w2 ⟨rfl, R2, s2, b2⟩
      have R2' := Lib.hid R2
      clear R2
      have B2 := hbel.trans (b2.mono (show w.heap.size ≤ g by omega))
      go_wp2_with fail
      go_roundw
      case rel => exact ⟨k + 1, by omega, by go_num, R2', by omega, B2⟩
      case measure => simp [intOf]; omega
    · obtain rfl : len = k := by omega
      go_wp2_with fail
      refine (setTop_any len _ RK.out (by omega) (by omega)).mono ?_
      rintro e w2 ⟨rfl, R2, s2, b2⟩
      have R2' := Lib.hid R2
      clear R2
      go_wp2_with fail
      go_ret
      exact ⟨h, g, r, rfl, q1, q2, q3, by omega, R2'.out, hbel.trans (b2.mono (by omega))⟩

theorem slotNum_lt (i v : Nat) (top : Int) (w : World) (R : Reg w h g r n top gb mx z k hit) (hi : i < n) (hk : i < k) (hv : z.getD i 0 = v) : Calls Try.prog 32 #[.pointer (some ⟨r, 0, none⟩), .int .i64 i] w fun e w' => e = .returned (.tuple #[.float .f64 v, .bool true]) ∧ w = w' := by
  refine (slotNumber_any i w R hi).mono ?_
  rintro e w' ⟨rfl, rfl⟩
  exact ⟨by rw [if_pos hk, hv]; simp [hk], rfl⟩
theorem slotNil_ge (i : Nat) (top : Int) (w : World) (R : Reg w h g r n top gb mx z k hit) (hi : i < n) (hk : k ≤ i) : Calls Try.prog 34 #[.pointer (some ⟨r, 0, none⟩), .int .i64 i] w fun e w' => e = .returned (.bool true) ∧ w = w' := by
  refine (slotIsNil_any i w R hi).mono ?_
  rintro e w' ⟨rfl, rfl⟩
  exact ⟨by simp [hk], rfl⟩

theorem slotsMatch_any (a : Option Addr) (len cap : Nat) (top : Int) (w : World) (r0 : IsRow (.float .f64) 0 w a len cap z) (R : Reg w h g r n top gb mx z k hit) (hkl : k ≤ len) (hkn : k ≤ n) (hn : n ≤ 1048576) :
    Calls Try.prog 18 #[.pointer (some ⟨r, 0, none⟩), .slice a len cap, .int .i64 k, .int .i64 n] w fun e w' => e = .returned (.bool true) ∧ w = w' := by
  have hc := r0.2.2.2.2
  have RH := Lib.hid R
  have l1 := R.fl.lt
  have l2 := R.ar.lt
  have l3 := R.rg.lt
  clear R
  go_enter Try.func18, Try.ntmps18
  go_wp2_with fail
  go_loopw [9] (fun i wr => ∃ j : Nat, j ≤ k ∧ i = .int .i64 j ∧ w = wr) (fun i _ => k - (intOf i).toNat)
  case atStart => exact ⟨0, Nat.zero_le _, rfl, rfl⟩
  case round =>
    obtain ⟨j, hj, rfl, rfl⟩ := hrel
    by_cases hlt : j < k
    · obtain ⟨b, off, hx, hbl, hcl⟩ := hc (by omega)
      obtain ⟨v, hv⟩ : ∃ v, z.getD j 0 = v := ⟨_, rfl⟩
      have hcs : w.cell? ⟨b, off + j, none⟩ = some (.float .f64 v) := by rw [← hv]; exact hcl j (by omega)
      have HX := Lib.hid hx
      rw [hx]
      clear hx hcl
      have HV := Lib.hid hv
      clear hv
      have hlt' : (j : Int) < (k : Int) := by omega
      have hlt1 : (j : Int) < (len : Int) := by omega
      go_wp2_with fail
      refine (slotNum_lt j v _ _ RH.out (by omega) hlt HV.out).mono ?_
      rintro e w2 ⟨rfl, rfl⟩
      go_wp2_with fail
      refine (sameF_any v _).mono ?_
      rintro e w2 ⟨rfl, rfl⟩
      go_wp2_with fail
      go_roundw
      case rel => exact ⟨j + 1, by omega, by go_num, by first | rfl | trivial⟩
      case measure => simp [intOf]; omega
    · obtain rfl : k = j := by omega
      go_wp2_with fail
      go_loopw [12] (fun i w2 => ∃ j : Nat, k ≤ j ∧ j ≤ n ∧ i = .int .i64 j ∧ w = w2) (fun i _ => n - (intOf i).toNat)
      case atStart => exact ⟨k, Nat.le_refl _, hkn, rfl, rfl⟩
      case round =>
        obtain ⟨j, hj1, hj2, rfl, rfl⟩ := hrel
        by_cases hl2 : j < n
        · have hl2' : (j : Int) < (n : Int) := by omega
          go_wp2_with fail
          refine (slotNil_ge j _ _ RH.out hl2 hj1).mono ?_
          rintro e w2 ⟨rfl, rfl⟩
          go_wp2_with fail
          go_roundw
          case rel => exact ⟨j + 1, by omega, by omega, by go_num, by first | rfl | trivial⟩
          case measure => simp [intOf]; omega
        · obtain rfl : n = j := by omega
          go_wp2_with fail
          go_ret
          exact ⟨rfl, rfl⟩
theorem zzMin_any (x y m : Int) (w : World) (hm : min x y = m) : Calls Try.prog 19 #[.int .i64 x, .int .i64 y] w fun e w' => e = .returned (.int .i64 m) ∧ w = w' := by
  by_cases h : x < y
  · obtain rfl : x = m := by omega
    clear hm
    go_enter Try.func19, Try.ntmps19
    go_wp2
    go_ret
    exact ⟨rfl, rfl⟩
  · obtain rfl : y = m := by omega
    clear hm
    go_enter Try.func19, Try.ntmps19
    go_wp2
    go_ret
    exact ⟨rfl, rfl⟩
end
end Go.Proofs.Ytphmcbijpcidaaa
