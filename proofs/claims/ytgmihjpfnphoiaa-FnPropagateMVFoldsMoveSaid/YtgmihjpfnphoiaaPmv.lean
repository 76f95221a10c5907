/- The contract of PropagateMV behind a MOVE into a register from top on. -/
import Derived.Test.YtgmihjpfnphoiaaAnF
namespace Go.Proofs.Ytgmihjpfnphoiaa
open Go.ChangeShapes Go.WideShapes Go.ChangeAt Go.RowKit
set_option linter.unusedVariables false

theorem u32_and511 (n : Int) (h0 : 0 ≤ n) (h : n < 4294967296) : bits .and .u32 n 511 = n % 512 := by
  obtain ⟨k, rfl⟩ := Int.eq_ofNat_of_zero_le h0
  have e := u32_and_nat k 511 (by omega) (by omega)
  rw [show (511 : Nat) = 2 ^ 9 - 1 from rfl, Nat.and_two_pow_sub_one_eq_mod] at e
  have e2 : bits .and .u32 (k : Int) 511 = ((k % 2 ^ 9 : Nat) : Int) := e
  rw [e2]
  omega

theorem last_any (c g n p : Nat) (pc : Nat) (y : Int) (w : World) (h0 : w.cell? ⟨c, 0, none⟩ = some (.slice (some ⟨g, 0, none⟩) n p)) (h2 : w.cell? ⟨c, 2, none⟩ = some (.int .i64 (pc + 1))) (hp : pc < n) (hn : n ≤ 1048577) (hc : w.cell? ⟨g, pc, none⟩ = some (.int .u32 y)) :
    Calls Try.prog 43 #[.pointer (some ⟨c, 0, none⟩)] w fun e w' => e = .returned (.int .u32 y) ∧ ∃ k, w.drewN k = w' := by
  have e1 : (pc : Int) + 1 - 1 = pc := by omega
  have hne : ((pc : Int) + 1 == 0) = false := by simp; omega
  have hlt : (pc : Int) < (n : Int) := by omega
  go_enter Try.func43, Try.ntmps43
  go_wp2
  go_quiet (fail)
  go_wp2
  go_ret
  exact ⟨rfl, _, rfl⟩

theorem getA_val (y a : Int) (hy : 0 ≤ y ∧ y < 67108864) (h : y / 262144 = a) (w : World) : Calls Try.prog 44 #[.int .u32 y] w fun e w' => e = .returned (.int .i64 a) ∧ w = w' := by
  have e2 : bits .and .i64 a 255 = a := by rw [i64_and255 a]; omega
  go_enter Try.func44, Try.ntmps44
  go_wp2
  go_ret
  exact ⟨rfl, rfl⟩
theorem getOp_val (y : Int) (hy : 0 ≤ y ∧ y < 67108864) (w : World) : Calls Try.prog 45 #[.int .u32 y] w fun e w' => e = .returned (.int .i64 0) ∧ w = w' := by
  have e2 : y / 67108864 = 0 := by omega
  go_enter Try.func45, Try.ntmps45
  go_wp2
  go_ret
  exact ⟨rfl, rfl⟩
theorem getB_val (y b : Int) (hy : 0 ≤ y ∧ y < 67108864) (h : y % 512 = b) (w : World) : Calls Try.prog 46 #[.int .u32 y] w fun e w' => e = .returned (.int .i64 b) ∧ w = w' := by
  have e2 : bits .and .u32 y 511 = b := by rw [u32_and511 y hy.1 (by omega)]; exact h
  go_enter Try.func46, Try.ntmps46
  go_wp2
  go_ret
  exact ⟨rfl, rfl⟩

theorem pmv_any (c g n p s r pc : Nat) (a b top sv inc : Int) (w : World) (h0 : w.cell? ⟨c, 0, none⟩ = some (.slice (some ⟨g, 0, none⟩) n p)) (h2 : w.cell? ⟨c, 2, none⟩ = some (.int .i64 (pc + 1))) (hf : w.frozen? ⟨c, 2, none⟩ = false) (hp : pc < n) (hn : n ≤ 1048577) (hc : w.cell? ⟨g, pc, none⟩ = some (.int .u32 (a * 262144 + b)))
    (ha : 0 ≤ a ∧ a ≤ 255) (hb : 0 ≤ b ∧ b ≤ 511) (ht : top ≤ a) (hs : w.cell? ⟨s, 0, none⟩ = some (.int .i64 sv)) (hsf : w.frozen? ⟨s, 0, none⟩ = false) (hsc : s ≠ c) :
    Calls Try.prog 38 #[.pointer (some ⟨c, 0, none⟩), .int .i64 top, .pointer (some ⟨s, 0, none⟩), .pointer (some ⟨r, 0, none⟩), .int .i64 inc] w fun e w' => e = .returned (.tuple #[]) ∧ ∃ k, ((w.drewN k).setCell ⟨c, 2, none⟩ (.int .i64 pc)).setCell ⟨s, 0, none⟩ (.int .i64 b) = w' := by
  have e1 : (pc : Int) + 1 - 1 = pc := by omega
  go_enter Try.func38, Try.ntmps38
  go_wp2_with fail
  refine (last_any c g n p pc (a * 262144 + b) _ h0 h2 hp hn hc).mono ?_
  rintro e w1 ⟨rfl, k, rfl⟩
  obtain ⟨y, hy⟩ : ∃ y, a * 262144 + b = y := ⟨_, rfl⟩
  rw [hy]
  have hyb : 0 ≤ y ∧ y < 67108864 := by omega
  have hya : y / 262144 = a := by omega
  have hyB : y % 512 = b := by omega
  clear hy
  go_wp2_with fail
  refine (getA_val y a hyb hya _).mono ?_
  rintro e w' ⟨rfl, rfl⟩
  go_wp2_with fail
  refine (getOp_val y hyb _).mono ?_
  rintro e w' ⟨rfl, rfl⟩
  go_wp2_with (go_at_call 34; go_in)
  go_end0
  go_wp2_with fail
  refine (getB_val y b hyb hyB _).mono ?_
  rintro e w' ⟨rfl, rfl⟩
  go_wp2_with fail
  refine bodyPost_ret (results_none rfl _ _ _) rfl ?_
  exact ⟨rfl, _, rfl⟩

theorem zzPmv_any (c g n p s r pc : Nat) (a b top sv inc : Int) (w : World) (h0 : w.cell? ⟨c, 0, none⟩ = some (.slice (some ⟨g, 0, none⟩) n p)) (h2 : w.cell? ⟨c, 2, none⟩ = some (.int .i64 (pc + 1))) (hf : w.frozen? ⟨c, 2, none⟩ = false) (hp : pc < n) (hn : n ≤ 1048577) (hc : w.cell? ⟨g, pc, none⟩ = some (.int .u32 (a * 262144 + b)))
    (ha : 0 ≤ a ∧ a ≤ 255) (hb : 0 ≤ b ∧ b ≤ 511) (ht : top ≤ a) (hs : w.cell? ⟨s, 0, none⟩ = some (.int .i64 sv)) (hsf : w.frozen? ⟨s, 0, none⟩ = false) (hsc : s ≠ c) :
    Calls Try.prog 31 #[.pointer (some ⟨c, 0, none⟩), .int .i64 top, .pointer (some ⟨s, 0, none⟩), .pointer (some ⟨r, 0, none⟩), .int .i64 inc] w fun e w' => e = .returned (.tuple #[]) ∧ ∃ k, ((w.drewN k).setCell ⟨c, 2, none⟩ (.int .i64 pc)).setCell ⟨s, 0, none⟩ (.int .i64 b) = w' := by
  go_enter Try.func31, Try.ntmps31
  go_wp2_with fail
  refine (pmv_any c g n p s r pc a b top sv inc _ h0 h2 hf hp hn hc ha hb ht hs hsf hsc).mono ?_
  rintro e w1 ⟨rfl, k, rfl⟩
  go_wp2_with fail
  go_end0
  exact ⟨rfl, _, rfl⟩
end Go.Proofs.Ytgmihjpfnphoiaa
