/- The F-forms of the contracts that add: with what is known of the new rows' blocks. -/
import Derived.Test.YtgmihjpfnphoiaaAddF
import Derived.Test.YtgmihjpfnphoiaaAn46
namespace Go.Proofs.Ytgmihjpfnphoiaa
open Go.ChangeShapes Go.WideShapes Go.ChangeAt Go.RowKit
set_option linter.unusedVariables false

theorem addF_any (c n pc : Nat) (a0 a1 : Option Addr) (c0 c1 : Nat) (xs ys : List Value) (inst line : Int) (w : World) (hs : w.rowIs c 47 3 (st3 (.slice a0 n c0) (.slice a1 n c1) (.int .i64 pc)))
    (h0 : w.ownsRow 0 39 1 (.slice a0 n c0) n xs) (h1 : w.ownsRow 0 3 1 (.slice a1 n c1) n ys) (hn : n ≤ 1048576) (hp : pc ≤ n) (hB : pc = n → c0 = n ∧ c1 = n) :
    Calls Try.prog 41 #[.pointer (some ⟨c, 0, none⟩), .int .u32 inst, .int .i64 line] w
      (AddedF c (nAt n pc) (.slice a0 n c0) (.slice a1 n c1) (putAt xs n pc (.int .u32 inst)) (putAt ys n pc (.int .i64 line)) (pc + 1) w) := by
  by_cases e : pc = n
  · subst e
    obtain ⟨h1', h2'⟩ := hB rfl
    have h1' := h1'.symm
    have h2' := h2'.symm
    subst h1'
    subst h2'
    unfold nAt putAt
    rw [if_pos rfl, if_pos rfl, if_pos rfl]
    by_cases h00 : pc = 0
    · subst h00
      exact add_full0 c a0 a1 xs ys inst line w hs h0 h1 hn
    · exact add_full c pc a0 a1 xs ys inst line w hs h0 h1 hn (by omega)
  · unfold nAt putAt
    rw [if_neg e, if_neg e, if_neg e]
    obtain ⟨g0, p0, e0, _⟩ := own_form h0 (by omega)
    obtain ⟨g1, p1, e1, _⟩ := own_form h1 (by omega)
    simp at e0 e1
    obtain ⟨rfl, rfl⟩ := e0
    obtain ⟨rfl, rfl⟩ := e1
    exact add_overF c n pc g0 g1 c0 c1 xs ys inst line w hs h0 h1 hn (by omega)

theorem addABCF_any (c n pc : Nat) (a0 a1 : Option Addr) (c0 c1 : Nat) (xs ys : List Value) (op a b d line : Int) (w : World) (hs : w.rowIs c 47 3 (st3 (.slice a0 n c0) (.slice a1 n c1) (.int .i64 pc)))
    (h0 : w.ownsRow 0 39 1 (.slice a0 n c0) n xs) (h1 : w.ownsRow 0 3 1 (.slice a1 n c1) n ys) (hn : n ≤ 1048576) (hp : pc ≤ n) (hB : pc = n → c0 = n ∧ c1 = n) :
    Calls Try.prog 37 #[.pointer (some ⟨c, 0, none⟩), .int .i64 op, .int .i64 a, .int .i64 b, .int .i64 d, .int .i64 line] w
      (AddedF c (nAt n pc) (.slice a0 n c0) (.slice a1 n c1) (putAt xs n pc (.int .u32 (createv op a b d))) (putAt ys n pc (.int .i64 line)) (pc + 1) w) := by
  go_enter Try.func37, Try.ntmps37
  go_wp2_with fail
  refine (create_any op a b d _).mono ?_
  rintro e w1 ⟨rfl, rfl⟩
  go_wp2_with fail
  refine (addF_any c n pc a0 a1 c0 c1 xs ys (createv op a b d) line _ (hs.alloc _) (h0.alloc _) (h1.alloc _) hn hp hB).mono ?_
  rintro e w2 ⟨rfl, g0, g1, p0, p1, k0, k1, k2, f0, f1, z0, z1, k3⟩
  have K0 := Lib.hid k0
  clear k0
  go_wp2_with fail
  go_end0
  exact ⟨rfl, g0, g1, p0, p1, K0.out, k1, k2, f0.imp_left (fun h => by simp at h; omega), f1.imp_left (fun h => by simp at h; omega), z0, z1, k3.of_alloc⟩
theorem zzAddLoadNilF_any (c n pc : Nat) (a0 a1 : Option Addr) (c0 c1 : Nat) (xs ys : List Value) (a b line : Int) (w : World) (hs : w.rowIs c 47 3 (st3 (.slice a0 n c0) (.slice a1 n c1) (.int .i64 pc)))
    (h0 : w.ownsRow 0 39 1 (.slice a0 n c0) n xs) (h1 : w.ownsRow 0 3 1 (.slice a1 n c1) n ys) (hn : n ≤ 1048576) (hp : pc ≤ n) (hB : pc = n → c0 = n ∧ c1 = n) :
    Calls Try.prog 15 #[.pointer (some ⟨c, 0, none⟩), .int .i64 a, .int .i64 b, .int .i64 line] w
      (AddedF c (nAt n pc) (.slice a0 n c0) (.slice a1 n c1) (putAt xs n pc (.int .u32 (createv 4 a b 0))) (putAt ys n pc (.int .i64 line)) (pc + 1) w) := by
  go_enter Try.func15, Try.ntmps15
  go_wp2_with (go_at_call 33; go_in)
  refine (addABCF_any c n pc a0 a1 c0 c1 xs ys 4 a b 0 line _ hs h0 h1 hn hp hB).mono ?_
  rintro e w2 ⟨rfl, g0, g1, p0, p1, k0, k1, k2, f0, f1, z0, z1, k3⟩
  have K0 := Lib.hid k0
  clear k0
  go_wp2_with fail
  go_end0
  go_wp2_with fail
  go_end0
  exact ⟨rfl, g0, g1, p0, p1, K0.out, k1, k2, f0, f1, z0, z1, k3⟩

theorem zzAddABCF_any (c n pc : Nat) (a0 a1 : Option Addr) (c0 c1 : Nat) (xs ys : List Value) (op a b d line : Int) (w : World) (hs : w.rowIs c 47 3 (st3 (.slice a0 n c0) (.slice a1 n c1) (.int .i64 pc)))
    (h0 : w.ownsRow 0 39 1 (.slice a0 n c0) n xs) (h1 : w.ownsRow 0 3 1 (.slice a1 n c1) n ys) (hn : n ≤ 1048576) (hp : pc ≤ n) (hB : pc = n → c0 = n ∧ c1 = n) :
    Calls Try.prog 30 #[.pointer (some ⟨c, 0, none⟩), .int .i64 op, .int .i64 a, .int .i64 b, .int .i64 d, .int .i64 line] w
      (AddedF c (nAt n pc) (.slice a0 n c0) (.slice a1 n c1) (putAt xs n pc (.int .u32 (createv op a b d))) (putAt ys n pc (.int .i64 line)) (pc + 1) w) := by
  go_enter Try.func30, Try.ntmps30
  go_wp2_with fail
  refine (addABCF_any c n pc a0 a1 c0 c1 xs ys op a b d line _ hs h0 h1 hn hp hB).mono ?_
  rintro e w2 ⟨rfl, g0, g1, p0, p1, k0, k1, k2, f0, f1, z0, z1, k3⟩
  have K0 := Lib.hid k0
  clear k0
  go_wp2_with fail
  go_end0
  exact ⟨rfl, g0, g1, p0, p1, K0.out, k1, k2, f0, f1, z0, z1, k3⟩

end Go.Proofs.Ytgmihjpfnphoiaa
