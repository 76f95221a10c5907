/- The contracts of the code store's makers, setters and readers. -/
import Derived.Test.YtgmihjpfnphoiaaSet
namespace Go.Proofs.Ytgmihjpfnphoiaa
open Go.ChangeShapes Go.WideShapes Go.ChangeAt Go.RowKit
set_option linter.unusedVariables false

theorem newStore_any (a0 a1 : Option Addr) (n0 c0 n1 c1 : Nat) (pc : Int) (w : World) :
    Calls Try.prog 14 #[.slice a0 n0 c0, .slice a1 n1 c1, .int .i64 pc] w fun e w' =>
      e = .returned (.pointer (some ⟨w.heap.size, 0, none⟩)) ∧ w.alloc (.cells #[.slice a0 n0 c0, .slice a1 n1 c1, .int .i64 pc] 47) = w' := by
  go_enter Try.func14, Try.ntmps14
  go_wp2
  go_ret
  exact ⟨rfl, rfl⟩

theorem zzSetA_any (c cb n m p : Nat) (x v : Int) (w : World) (h0 : w.cell? ⟨c, 0, none⟩ = some (.slice (some ⟨cb, 0, none⟩) n m)) (hp : p < n) (hn : n ≤ 1048576) (hc : w.cell? ⟨cb, p, none⟩ = some (.int .u32 x)) (hf : w.frozen? ⟨cb, p, none⟩ = false)
    (hx0 : 0 ≤ x) (hx : x < 4294967296) :
    Calls Try.prog 25 #[.pointer (some ⟨c, 0, none⟩), .int .i64 p, .int .i64 v] w (Stored cb p (setAv x v) w) := by
  go_enter Try.func25, Try.ntmps25
  go_wp2_with (first | (go_at_call 40; refine (setA_any cb p x v _ hc hf hx0 hx).mono ?_; rintro e w1 ⟨rfl, hw1⟩) | go_in)
  go_end0
  go_wp2
  go_end0
  exact ⟨rfl, hw1⟩
theorem zzSetOp_any (c cb n m p : Nat) (x v : Int) (w : World) (h0 : w.cell? ⟨c, 0, none⟩ = some (.slice (some ⟨cb, 0, none⟩) n m)) (hp : p < n) (hn : n ≤ 1048576) (hc : w.cell? ⟨cb, p, none⟩ = some (.int .u32 x)) (hf : w.frozen? ⟨cb, p, none⟩ = false)
    (hx0 : 0 ≤ x) (hx : x < 4294967296) :
    Calls Try.prog 23 #[.pointer (some ⟨c, 0, none⟩), .int .i64 p, .int .i64 v] w (Stored cb p (setOpv x v) w) := by
  go_enter Try.func23, Try.ntmps23
  go_wp2_with (first | (go_at_call 39; refine (setOp_any cb p x v _ hc hf hx0 hx).mono ?_; rintro e w1 ⟨rfl, hw1⟩) | go_in)
  go_end0
  go_wp2
  go_end0
  exact ⟨rfl, hw1⟩

theorem getCodes_any (c : Nat) (v : Value) (w : World) (h : w.cell? ⟨c, 0, none⟩ = some v) :
    Calls Try.prog 19 #[.pointer (some ⟨c, 0, none⟩)] w fun e w' => e = .returned v ∧ w = w' := by
  go_enter Try.func19, Try.ntmps19
  go_wp2
  go_ret
  exact ⟨rfl, rfl⟩
theorem getLines_any (c : Nat) (v : Value) (w : World) (h : w.cell? ⟨c, 1, none⟩ = some v) :
    Calls Try.prog 21 #[.pointer (some ⟨c, 0, none⟩)] w fun e w' => e = .returned v ∧ w = w' := by
  go_enter Try.func21, Try.ntmps21
  go_wp2
  go_ret
  exact ⟨rfl, rfl⟩
theorem getPc_any (c : Nat) (v : Value) (w : World) (h : w.cell? ⟨c, 2, none⟩ = some v) :
    Calls Try.prog 17 #[.pointer (some ⟨c, 0, none⟩)] w fun e w' => e = .returned v ∧ w = w' := by
  go_enter Try.func17, Try.ntmps17
  go_wp2
  go_ret
  exact ⟨rfl, rfl⟩


theorem tmod_neg (v m : Int) (hv : v < 0) : v.tmod m = -((-v) % m) := by
  have := Int.neg_tmod (-v) m
  rw [Int.neg_neg] at this
  rw [this, Int.tmod_eq_emod_of_nonneg (by omega)]
theorem ret_int {k : IntKind} {a b : Int} (h : a = b) : Ending.returned (.int k a) = .returned (.int k b) := by rw [h]
theorem modB (v m : Int) (hm : 1 ≤ m) : 0 ≤ v % m ∧ v % m < m := ⟨Int.emod_nonneg _ (by omega), Int.emod_lt_of_pos _ (by omega)⟩
theorem tmB (v m : Int) (hm : 1 ≤ m) (hv : v < 0) : -m < v.tmod m ∧ v.tmod m ≤ 0 := by
  have := modB (-v) m hm
  rw [tmod_neg v m hv]
  omega

theorem zzMod_any (v m : Int) (w : World) (hm : m = 64 ∨ m = 256 ∨ m = 512) (hv : -9223372036854775808 ≤ v ∧ v ≤ 9223372036854775807) :
    Calls Try.prog 27 #[.int .i64 v, .int .i64 m] w fun e w' => e = .returned (.int .i64 (v % m)) ∧ w = w' := by
  obtain ⟨hv1, hv2⟩ := hv
  have h1 : 1 ≤ m := by omega
  have h2 : m ≤ 512 := by omega
  by_cases h0 : 0 ≤ v
  · obtain ⟨hb, hb'⟩ := modB v m h1
    go_enter Try.func27, Try.ntmps27
    go_wp2
    go_ret
    exact ⟨rfl, rfl⟩
  · obtain ⟨hb, hb'⟩ := tmB v m h1 (by omega)
    have ht := Lib.hid (tmod_neg v m (by omega))
    by_cases hz : v.tmod m < 0
    · have hf : v.tmod m + m = v % m := by
        rw [ht.out] at hz ⊢
        rcases hm with rfl | rfl | rfl <;> omega
      have Hf := Lib.hid hf
      clear hf
      go_enter Try.func27, Try.ntmps27
      go_wp2
      go_ret
      exact ⟨ret_int Hf.out, rfl⟩
    · have hf : v.tmod m = v % m := by
        have hz' : v.tmod m = 0 := by omega
        rw [ht.out] at hz' ⊢
        rcases hm with rfl | rfl | rfl <;> omega
      have Hf := Lib.hid hf
      clear hf
      go_enter Try.func27, Try.ntmps27
      go_wp2
      go_ret
      exact ⟨ret_int Hf.out, rfl⟩

theorem zzMod_val (v m r : Int) (hr : v % m = r) (w : World) (hm : m = 64 ∨ m = 256 ∨ m = 512) (hv : -9223372036854775808 ≤ v ∧ v ≤ 9223372036854775807) :
    Calls Try.prog 27 #[.int .i64 v, .int .i64 m] w fun e w' => e = .returned (.int .i64 r) ∧ w = w' := by
  subst hr
  exact zzMod_any v m w hm hv
end Go.Proofs.Ytgmihjpfnphoiaa
