/- The contracts of the doors that add, pop, of n005_46. -/
import Derived.Test.YtgmihjpfnphoiaaAddNil
import Derived.Test.YtgmihjpfnphoiaaSt46
namespace Go.Proofs.Ytgmihjpfnphoiaa
open Go.ChangeShapes Go.WideShapes Go.ChangeAt Go.RowKit
set_option linter.unusedVariables false

theorem zzAddLoadNil_any (B c n pc : Nat) (a0 a1 : Option Addr) (c0 c1 : Nat) (xs ys : List Value) (a b line : Int) (w : World) (hs : w.rowIs c 47 3 (st3 (.slice a0 n c0) (.slice a1 n c1) (.int .i64 pc)))
    (h0 : w.ownsRow B 39 1 (.slice a0 n c0) n xs) (h1 : w.ownsRow B 3 1 (.slice a1 n c1) n ys) (hn : n ≤ 1048576) (hp : pc ≤ n) (hB : B ≤ w.heap.size) :
    Calls Try.prog 15 #[.pointer (some ⟨c, 0, none⟩), .int .i64 a, .int .i64 b, .int .i64 line] w
      (Added B c (nAt n pc) (.slice a0 n c0) (.slice a1 n c1) (putAt xs n pc (.int .u32 (createv 4 a b 0))) (putAt ys n pc (.int .i64 line)) (pc + 1) w) := by
  go_enter Try.func15, Try.ntmps15
  go_wp2_with (go_at_call 33; go_in)
  refine (addABC_any B c n pc a0 a1 c0 c1 xs ys 4 a b 0 line _ hs h0 h1 hn hp hB).mono ?_
  rintro e w2 ⟨rfl, g0, g1, p0, p1, k0, k1, k2, k3⟩
  have K0 := Lib.hid k0
  clear k0
  go_wp2_with fail
  go_end0
  go_wp2_with fail
  go_end0
  exact ⟨rfl, g0, g1, p0, p1, K0.out, k1, k2, k3⟩

theorem zzAddABC_any (B c n pc : Nat) (a0 a1 : Option Addr) (c0 c1 : Nat) (xs ys : List Value) (op a b d line : Int) (w : World) (hs : w.rowIs c 47 3 (st3 (.slice a0 n c0) (.slice a1 n c1) (.int .i64 pc)))
    (h0 : w.ownsRow B 39 1 (.slice a0 n c0) n xs) (h1 : w.ownsRow B 3 1 (.slice a1 n c1) n ys) (hn : n ≤ 1048576) (hp : pc ≤ n) (hB : B ≤ w.heap.size) :
    Calls Try.prog 30 #[.pointer (some ⟨c, 0, none⟩), .int .i64 op, .int .i64 a, .int .i64 b, .int .i64 d, .int .i64 line] w
      (Added B c (nAt n pc) (.slice a0 n c0) (.slice a1 n c1) (putAt xs n pc (.int .u32 (createv op a b d))) (putAt ys n pc (.int .i64 line)) (pc + 1) w) := by
  go_enter Try.func30, Try.ntmps30
  go_wp2_with fail
  refine (addABC_any B c n pc a0 a1 c0 c1 xs ys op a b d line _ hs h0 h1 hn hp hB).mono ?_
  rintro e w2 ⟨rfl, g0, g1, p0, p1, k0, k1, k2, k3⟩
  have K0 := Lib.hid k0
  clear k0
  go_wp2_with fail
  go_end0
  exact ⟨rfl, g0, g1, p0, p1, K0.out, k1, k2, k3⟩

theorem zzPop_any (c : Nat) (pc : Int) (w : World) (h2 : w.cell? ⟨c, 2, none⟩ = some (.int .i64 pc)) (hf : w.frozen? ⟨c, 2, none⟩ = false) (hp : 0 < pc) (hp2 : pc ≤ 1048577) :
    Calls Try.prog 16 #[.pointer (some ⟨c, 0, none⟩)] w fun e w' => e = .returned (.tuple #[]) ∧ w.setCell ⟨c, 2, none⟩ (.int .i64 (pc - 1)) = w' := by
  go_enter Try.func16, Try.ntmps16
  go_wp2
  go_end0
  go_wp2
  go_end0
  exact ⟨rfl, rfl⟩

theorem createv_nil (a b : Int) : createv 4 a b 0 = 268435456 + a % 256 * 262144 + b % 512 := by unfold createv setCv setBv setAv setOpv; omega
theorem createv_move (a b : Int) (ha : 0 ≤ a) (ha2 : a ≤ 255) (hb : 0 ≤ b) (hb2 : b ≤ 511) : createv 0 a b 0 = a * 262144 + b := by unfold createv setCv setBv setAv setOpv; omega
theorem createv_bd (op a b c : Int) : 0 ≤ createv op a b c ∧ createv op a b c < 4294967296 := by unfold createv setCv setBv setAv setOpv; omega
theorem putAt_len {α : Type} (xs : List α) (n pc : Nat) (v : α) (h : xs.length = n) : (putAt xs n pc v).length = nAt n pc := by
  unfold putAt nAt
  split <;> simp [h]
theorem putAt_self {zs : List Int} {n pc : Nat} (v : Int) (h : zs.length = n) (hp : pc ≤ n) : (putAt zs n pc v).getD pc 0 = v := by
  unfold putAt
  split
  · simp [List.getD, List.getElem?_append_right, *]
  · simp [List.getD, show pc < zs.length by omega]
theorem putAt_other {zs : List Int} {n pc i : Nat} (v : Int) (h : zs.length = n) (hi : i < n) (hne : i ≠ pc) : (putAt zs n pc v).getD i 0 = zs.getD i 0 := by
  unfold putAt
  split
  · simp [List.getD, List.getElem?_append_left (show i < zs.length by omega)]
  · simp [List.getD, List.getElem?_set_ne (Ne.symm hne)]
end Go.Proofs.Ytgmihjpfnphoiaa
