/- The contracts of AddABC and of what adds a LOADNIL: where the word lands, what else is kept. -/
import Derived.Test.YticnfohoddlolaaFmtAdd
namespace Go.Proofs.YticnfohoddlolaaFmt
open Go.ChangeShapes Go.WideShapes Go.ChangeAt Go.RowKit
set_option linter.unusedVariables false

def nAt (n pc : Nat) : Nat := if pc = n then n + 1 else n
def putAt {α : Type} (xs : List α) (n pc : Nat) (v : α) : List α := if pc = n then xs ++ [v] else xs.set pc v

theorem putAt_map {α β : Type} (f : α → β) (xs : List α) (n pc : Nat) (v : α) : putAt (xs.map f) n pc (f v) = (putAt xs n pc v).map f := by
  unfold putAt
  split
  · simp
  · simp [List.map_set]

theorem AddKept.of_alloc {c : Nat} {r0 r1 : Option Nat} {w w' : World} {o : Obj} (h : AddKept c r0 r1 (w.alloc o) w') : AddKept c r0 r1 w w' :=
  ⟨h.os, h.tape, h.output, by have := h.size; simp at this; omega, fun k hk h1 h2 h3 => (h.block k (by simp; omega) h1 h2 h3).trans (Below.heap_alloc _ _ k hk)⟩

theorem add_any (B c n pc : Nat) (a0 a1 : Option Addr) (c0 c1 : Nat) (xs ys : List Value) (inst line : Int) (w : World) (hs : w.rowIs c 63 3 (st3 (.slice a0 n c0) (.slice a1 n c1) (.int .i64 pc)))
    (h0 : w.ownsRow B 36 1 (.slice a0 n c0) n xs) (h1 : w.ownsRow B 3 1 (.slice a1 n c1) n ys) (hn : n ≤ 1048576) (hp : pc ≤ n) (hB : B ≤ w.heap.size) :
    Calls Tryf.prog 42 #[.pointer (some ⟨c, 0, none⟩), .int .u32 inst, .int .i64 line] w
      (Added B c (nAt n pc) (.slice a0 n c0) (.slice a1 n c1) (putAt xs n pc (.int .u32 inst)) (putAt ys n pc (.int .i64 line)) (pc + 1) w) := by
  by_cases e : pc = n
  · subst e
    unfold nAt putAt
    rw [if_pos rfl, if_pos rfl, if_pos rfl]
    by_cases h00 : pc = 0
    · subst h00
      exact add_first B c a0 a1 c0 c1 xs ys inst line w hs h0 h1 hn hB
    · exact add_grow B c pc a0 a1 c0 c1 xs ys inst line w hs h0 h1 hn hB (by omega)
  · unfold nAt putAt
    rw [if_neg e, if_neg e, if_neg e]
    obtain ⟨g0, p0, e0, _⟩ := own_form h0 (by omega)
    obtain ⟨g1, p1, e1, _⟩ := own_form h1 (by omega)
    simp at e0 e1
    obtain ⟨rfl, rfl⟩ := e0
    obtain ⟨rfl, rfl⟩ := e1
    exact add_over B c n pc g0 g1 c0 c1 xs ys inst line w hs h0 h1 hn (by omega)

theorem addABC_any (B c n pc : Nat) (a0 a1 : Option Addr) (c0 c1 : Nat) (xs ys : List Value) (op a b d line : Int) (w : World) (hs : w.rowIs c 63 3 (st3 (.slice a0 n c0) (.slice a1 n c1) (.int .i64 pc)))
    (h0 : w.ownsRow B 36 1 (.slice a0 n c0) n xs) (h1 : w.ownsRow B 3 1 (.slice a1 n c1) n ys) (hn : n ≤ 1048576) (hp : pc ≤ n) (hB : B ≤ w.heap.size) :
    Calls Tryf.prog 34 #[.pointer (some ⟨c, 0, none⟩), .int .i64 op, .int .i64 a, .int .i64 b, .int .i64 d, .int .i64 line] w
      (Added B c (nAt n pc) (.slice a0 n c0) (.slice a1 n c1) (putAt xs n pc (.int .u32 (createv op a b d))) (putAt ys n pc (.int .i64 line)) (pc + 1) w) := by
  go_enter Tryf.func34, Tryf.ntmps34
  go_wp2_with fail
  refine (create_any op a b d _).mono ?_
  rintro e w1 ⟨rfl, rfl⟩
  go_wp2_with fail
  refine (add_any B c n pc a0 a1 c0 c1 xs ys (createv op a b d) line _ (hs.alloc _) (h0.alloc _) (h1.alloc _) hn hp (by simp; omega)).mono ?_
  rintro e w2 ⟨rfl, g0, g1, p0, p1, k0, k1, k2, k3⟩
  have K0 := Lib.hid k0
  clear k0
  go_wp2_with fail
  go_end0
  exact ⟨rfl, g0, g1, p0, p1, K0.out, k1, k2, k3.of_alloc⟩
end Go.Proofs.YticnfohoddlolaaFmt
