/- The contracts of the code store's maker, of SetB and of the field readers. -/
import Derived.Test.YtgnommaelahjlaaSet
namespace Go.Proofs.Ytgnommaelahjlaa
open Go.ChangeShapes Go.WideShapes Go.ChangeAt Go.RowKit
set_option linter.unusedVariables false

theorem newStore_any (a0 : Option Addr) (n0 c0 : Nat) (w : World) :
    Calls Try.prog 22 #[.slice a0 n0 c0] w fun e w' =>
      e = .returned (.pointer (some ⟨w.heap.size, 0, none⟩)) ∧ w.alloc (.cells #[.slice a0 n0 c0, .slice none 0 0, .int .i64 0] 57) = w' := by
  go_enter Try.func22, Try.ntmps22
  go_wp2
  go_ret
  exact ⟨rfl, rfl⟩

theorem zzSetB_any (c cb n m p : Nat) (x v : Int) (w : World) (h0 : w.cell? ⟨c, 0, none⟩ = some (.slice (some ⟨cb, 0, none⟩) n m)) (hp : p < n) (hn : n ≤ 1048576) (hc : w.cell? ⟨cb, p, none⟩ = some (.int .u32 x)) (hf : w.frozen? ⟨cb, p, none⟩ = false)
    (hx0 : 0 ≤ x) (hx : x < 4294967296) :
    Calls Try.prog 23 #[.pointer (some ⟨c, 0, none⟩), .int .i64 p, .int .i64 v] w (Stored cb p (setBv x v) w) := by
  go_enter Try.func23, Try.ntmps23
  go_wp2_with (first | (go_at_call 30; refine (setB_any cb p x v _ hc hf hx0 hx).mono ?_; rintro e w1 ⟨rfl, hw1⟩) | go_in)
  go_end0
  exact ⟨rfl, hw1⟩

theorem at_any (c cb n m p : Nat) (x : Int) (w : World) (h0 : w.cell? ⟨c, 0, none⟩ = some (.slice (some ⟨cb, 0, none⟩) n m)) (hp : p < n) (hn : n ≤ 1048576) (hc : w.cell? ⟨cb, p, none⟩ = some (.int .u32 x)) :
    Calls Try.prog 25 #[.pointer (some ⟨c, 0, none⟩), .int .i64 p] w fun e w' => e = .returned (.int .u32 x) ∧ w = w' := by
  go_enter Try.func25, Try.ntmps25
  go_wp2
  go_ret
  exact ⟨rfl, rfl⟩

theorem u32_and511 (n : Int) (h0 : 0 ≤ n) (h : n < 4294967296) : bits .and .u32 n 511 = n % 512 := by
  obtain ⟨k, rfl⟩ := Int.eq_ofNat_of_zero_le h0
  have e := u32_and_nat k 511 (by omega) (by omega)
  rw [show (511 : Nat) = 2 ^ 9 - 1 from rfl, Nat.and_two_pow_sub_one_eq_mod] at e
  have e2 : bits .and .u32 (k : Int) 511 = ((k % 2 ^ 9 : Nat) : Int) := e
  rw [e2]
  omega

theorem ret_int {k : IntKind} {a b : Int} (h : a = b) : Ending.returned (.int k a) = .returned (.int k b) := by rw [h]

theorem getB_any (y : Int) (w : World) (h0 : 0 ≤ y) (h : y < 4294967296) :
    Calls Try.prog 26 #[.int .u32 y] w fun e w' => e = .returned (.int .i64 (y % 512)) ∧ w = w' := by
  have e := Lib.hid (u32_and511 y h0 h)
  go_enter Try.func26, Try.ntmps26
  go_wp2
  go_ret
  exact ⟨ret_int (by rw [e.out]; unfold wrap64; omega), rfl⟩

theorem getA_any (y : Int) (w : World) (h0 : 0 ≤ y) (h : y < 4294967296) :
    Calls Try.prog 27 #[.int .u32 y] w fun e w' => e = .returned (.int .i64 (y / 262144 % 256)) ∧ w = w' := by
  have e := Lib.hid (i64_and255 (y / 262144))
  go_enter Try.func27, Try.ntmps27
  go_wp2
  go_ret
  exact ⟨ret_int (by rw [e.out]), rfl⟩

theorem getOp_any (y : Int) (w : World) (h0 : 0 ≤ y) (h : y < 4294967296) :
    Calls Try.prog 28 #[.int .u32 y] w fun e w' => e = .returned (.int .i64 (y / 67108864)) ∧ w = w' := by
  go_enter Try.func28, Try.ntmps28
  go_wp2
  go_ret
  exact ⟨ret_int (by omega), rfl⟩
end Go.Proofs.Ytgnommaelahjlaa
