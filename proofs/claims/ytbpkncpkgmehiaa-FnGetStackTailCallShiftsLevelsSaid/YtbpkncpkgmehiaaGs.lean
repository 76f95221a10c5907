/- The frames of n005_55 in memory; GetStack and what answers it. -/
import Derived.Test.YtbpkncpkgmehiaaRows2
import Derived.Laws.Entries
import Derived.Laws.EntriesVeiled
import Derived.Deep.MidRow
import Derived.StillTailTactics
namespace Go.Proofs.Ytbpkncpkgmehiaa.gs
open Go.ChangeShapes Go.WideShapes Go.ChangeAt Go.RowKit
set_option linter.unusedVariables false
set_option maxRecDepth 100000

theorem run_store_iface (P : Program) (w : World) (a : Addr) (m : Mode) (t : TypeId) (v : Value) : (store a (.iface t v) m).run P w = stored P w a (.iface t v) m := run_store P w a _ m rfl
theorem run_store_nilIface (P : Program) (w : World) (a : Addr) (m : Mode) : (store a .nilIface m).run P w = stored P w a .nilIface m := run_store P w a _ m rfl
attribute [local go_sem] run_store_iface run_store_nilIface
def lf (l : List Value) : Nat → Value := fun i => l.getD i undef
theorem lf_at (w : World) (l : List Value) (T k : Nat) (hk : k = w.heap.size) : (w.alloc (.cells l.toArray T)).rowIs k T l.length (lf l) := by
  subst hk
  have := World.rowIs_alloc w l.toArray T (lf l) (fun i hi => by
    have hi' : i < l.length := by simpa using hi
    simp [lf, List.getD, hi'])
  simpa using this

/-- The frame below the k-th: none, or frame k - 1. -/
def par (FB : Nat) : Nat → Option Addr
  | 0 => none
  | k + 1 => some ⟨FB, k * 10, none⟩
/-- GetStack's loop, plain: how many frames are left, and the level. -/
def run (g : Nat → Bool) (t : Nat → Int) : Nat → Int → Nat × Int
  | 0, L => (0, L)
  | k + 1, L => if 0 < L then run g t k (L - 1 - (if g k then 0 else t k)) else (k + 1, L)
theorem run_agree (g : Nat → Bool) (t t' : Nat → Int) : ∀ (k : Nat) (L : Int), (∀ i, i < k → t i = t' i) → run g t k L = run g t' k L
  | 0, _, _ => rfl
  | k + 1, L, h => by
    unfold run
    rw [h k (by omega), run_agree g t t' k _ (fun i hi => h i (by omega))]
theorem run_shift (g : Nat → Bool) (t t' : Nat → Int) (k : Nat) (L : Int) (h1 : 1 ≤ L) (hg : g k = false) (ht : t' k = t k + 1) (ha : ∀ i, i < k → t' i = t i) : run g t' (k + 1) (L + 1) = run g t (k + 1) L := by
  unfold run
  rw [if_pos (show 0 < L + 1 by omega), if_pos (show 0 < L by omega), hg, ht]
  simp only [Bool.false_eq_true, if_false]
  rw [show L + 1 - 1 - (t k + 1) = L - 1 - t k by omega]
  exact run_agree g t' t k _ ha
theorem run_stop (g : Nat → Bool) (t : Nat → Int) (k : Nat) (L : Int) (h : L ≤ 0) : run g t k L = (k, L) := by
  cases k with
  | zero => rfl
  | succ k => unfold run; rw [if_neg (by omega)]
/-- Which frame answers. -/
def ans (r : Nat × Int) : Option Nat := if r.2 = 0 ∧ 0 < r.1 then some (r.1 - 1) else if r.2 < 0 then some 0 else none

/-- Frame i. -/
def Frm (w : World) (FB i : Nat) (gi : Bool) (ti : Int) : Prop := w.cell? ⟨FB, i * 10, none⟩ = some (.int .i64 i) ∧ (∃ fb, w.cell? ⟨FB, i * 10 + 1, none⟩ = some (.pointer (some ⟨fb, 0, none⟩)) ∧ w.cell? ⟨fb, 0, none⟩ = some (.bool gi)) ∧
  w.cell? ⟨FB, i * 10 + 2, none⟩ = some (.pointer (par FB i)) ∧ w.cell? ⟨FB, i * 10 + 9, none⟩ = some (.int .i64 ti)
theorem Frm.keep {w w' : World} {FB i : Nat} {gi : Bool} {ti : Int} (h : Frm w FB i gi ti) (k : ∀ p v, w.cell? p = some v → w'.cell? p = some v) : Frm w' FB i gi ti := by
  obtain ⟨h0, ⟨fb, h1, h2⟩, h3, h4⟩ := h
  exact ⟨k _ _ h0, ⟨fb, k _ _ h1, k _ _ h2⟩, k _ _ h3, k _ _ h4⟩
theorem keeps {w w' : World} (b : Below w.heap.size w w') : ∀ p v, w.cell? p = some v → w'.cell? p = some v := fun p v h => (b.cell (cell_block_lt h)).trans h
/-- A state's stack: the state at LS, the stack at CS, the frames at FB. -/
structure Stk (w : World) (CS FB LS d : Nat) (g : Nat → Bool) (t : Nat → Int) : Prop where
  s0 : w.cell? ⟨LS, 14, none⟩ = some (.iface 46 (.pointer (some ⟨CS, 0, none⟩)))
  s1 : w.cell? ⟨LS, 16, none⟩ = some (.pointer (par FB d))
  c0 : w.cell? ⟨CS, 0, none⟩ = some (.slice (some ⟨FB, 0, none⟩) d d)
  c1 : w.cell? ⟨CS, 1, none⟩ = some (.int .i64 d)
  fr : ∀ i, i < d → Frm w FB i (g i) (t i)
theorem Stk.below {w w' : World} {CS FB LS d : Nat} {g : Nat → Bool} {t : Nat → Int} (h : Stk w CS FB LS d g t) (b : Below w.heap.size w w') : Stk w' CS FB LS d g t :=
  ⟨keeps b _ _ h.s0, keeps b _ _ h.s1, keeps b _ _ h.c0, keeps b _ _ h.c1, fun i hi => (h.fr i hi).keep (keeps b)⟩

theorem method_Sp (q : Addr) (w : World) : (method 298 46 (.pointer (some q)) "Sp").run Try.prog w = .ok (52, .pointer (some q)) w := by kernel_rfl
theorem method_At (q : Addr) (w : World) : (method 298 46 (.pointer (some q)) "At").run Try.prog w = .ok (50, .pointer (some q)) w := by kernel_rfl

theorem sp_any (CS d : Nat) (w : World) (c1 : w.cell? ⟨CS, 1, none⟩ = some (.int .i64 d)) : Calls Try.prog 52 #[.pointer (some ⟨CS, 0, none⟩)] w fun e w' => e = .returned (.int .i64 d) ∧ w = w' := by
  go_enter Try.func52, Try.ntmps52
  go_wp2
  go_ret
  exact ⟨rfl, rfl⟩
theorem at_any (CS FB d : Nat) (w : World) (c0 : w.cell? ⟨CS, 0, none⟩ = some (.slice (some ⟨FB, 0, none⟩) d d)) (hd : 0 < d) : Calls Try.prog 50 #[.pointer (some ⟨CS, 0, none⟩), .int .i64 0] w fun e w' => e = .returned (.pointer (some ⟨FB, 0, none⟩)) ∧ w = w' := by
  have hd' : (0 : Int) < (d : Int) := by omega
  go_enter Try.func50, Try.ntmps50
  go_wp2
  go_ret
  exact ⟨rfl, rfl⟩

/-- Behind GetStack: a Debug of the call's own. -/
def Answ (FB : Nat) (a : Option Nat) (w : World) (e : Ending) (w' : World) : Prop :=
  ∃ q, e = .returned (.tuple #[.pointer (some ⟨q, 0, none⟩), .bool a.isSome]) ∧ w.heap.size ≤ q ∧ w'.rowIs q 73 8 (lf [.pointer (a.map fun i => ⟨FB, i * 10, none⟩), .string ByteArray.empty, .string ByteArray.empty, .string ByteArray.empty, .int .i64 0, .int .i64 0, .int .i64 0, .int .i64 0]) ∧ Below w.heap.size w w'

set_option maxHeartbeats 1000000 in
theorem getStack_any (CS FB LS d : Nat) (g : Nat → Bool) (t : Nat → Int) (level : Int) (w : World) (S : Stk w CS FB LS d g t) (hd : 0 < d) (h1 : 1 ≤ level) (h2 : level ≤ 9223372036854775807) (ht : ∀ i, i < d → 0 ≤ t i ∧ t i ≤ 65537) :
    Calls Try.prog 28 #[.pointer (some ⟨LS, 0, none⟩), .int .i64 level] w (Answ FB (ans (run g t d level)) w) := by
  have SS := Lib.hid S
  have HT := Lib.hid ht
  have s1 := S.s1
  clear S ht
  go_enter Try.func28, Try.ntmps28
  go_wp2
  clear s1
  go_loopw [1, 6] (fun lv fp wr => ∃ (k : Nat) (L : Int) (m : Nat), k ≤ d ∧ -65538 ≤ L ∧ L ≤ level ∧ lv = .int .i64 L ∧ fp = .pointer (par FB k) ∧ Hid (run g t k L = run g t d level) ∧ wr = w.drewN m) (fun _ fp _ => match fp with | .pointer (some x) => x.off + 1 | _ => 0)
  case atStart => exact ⟨d, level, 0, Nat.le_refl _, by omega, by omega, rfl, rfl, Lib.hid rfl, rfl⟩
  case round =>
    obtain ⟨k, L, m, hk, hL1, hL2, rfl, rfl, HR, rfl⟩ := hrel
    have t0 : w.cell? ⟨LS, 14, none⟩ = some (.iface 46 (.pointer (some ⟨CS, 0, none⟩))) := SS.out.s0
    have u0 := SS.out.c0
    have u1 := SS.out.c1
    by_cases hneg : L < 0
    · have e : ans (run g t d level) = some 0 := by
        rw [← HR.out, run_stop g t k L (by omega)]
        unfold ans
        rw [if_neg (by simp; omega), if_pos (by simpa using hneg)]
      have HE := Lib.hid e
      have hn0 : decide (0 < L) = false := by simp; omega
      have he0 : (L == 0) = false := by simp; omega
      have m1 := method_Sp ⟨CS, 0, none⟩
      have m2 := method_At ⟨CS, 0, none⟩
      clear e
      go_wp2_with fail
      refine (sp_any CS d (w.drewN m) (by simpa only [go_sem] using u1)).mono ?_
      rintro e1 w1 ⟨rfl, rfl⟩
      go_wp2_with fail
      refine (at_any CS FB d (w.drewN m) (by simpa only [go_sem] using u0) hd).mono ?_
      rintro e1 w1 ⟨rfl, rfl⟩
      go_wp2_with fail
      go_ret2
      exact ⟨w.heap.size, by rw [HE.out]; rfl, Nat.le_refl _, by rw [HE.out]; exact lf_at (w.drewN m) [_, _, _, _, _, _, _, _] _ _ rfl, (below_drewN (Below.refl w.heap.size w) m).alloc (Nat.le_refl _) _⟩
    cases k with
    | zero =>
      have e : ans (run g t d level) = none := by
        rw [← HR.out]
        unfold run ans
        rw [if_neg (by simp), if_neg (by simpa using hneg)]
      have HE := Lib.hid e
      clear e
      have hn1 : decide (L < 0) = false := by simpa using hneg
      have hp0 := Lib.hid (show par FB 0 = none from rfl)
      rw [show par FB 0 = none from rfl]
      by_cases hz : L = 0
      · subst hz
        go_wp2_with fail
        go_ret2
        exact ⟨w.heap.size, by rw [HE.out]; rfl, Nat.le_refl _, by rw [HE.out]; exact lf_at (w.drewN m) [_, _, _, _, _, _, _, _] _ _ rfl, (below_drewN (Below.refl w.heap.size w) m).alloc (Nat.le_refl _) _⟩
      · have hz' : (L == 0) = false := by simpa using hz
        have hpos : 0 < L := by omega
        go_wp2_with fail
        go_ret2
        exact ⟨w.heap.size, by rw [HE.out]; rfl, Nat.le_refl _, by rw [HE.out]; exact lf_at (w.drewN m) [_, _, _, _, _, _, _, _] _ _ rfl, (below_drewN (Below.refl w.heap.size w) m).alloc (Nat.le_refl _) _⟩
    | succ j =>
      by_cases hz : L = 0
      · subst hz
        have e : ans (run g t d level) = some j := by
          rw [← HR.out, run_stop g t (j + 1) 0 (by omega)]
          unfold ans
          rw [if_pos (by simp)]
          rfl
        have HE := Lib.hid e
        clear e
        rw [show par FB (j + 1) = some ⟨FB, j * 10, none⟩ from rfl]
        go_wp2_with fail
        go_ret2
        exact ⟨w.heap.size, by rw [HE.out]; rfl, Nat.le_refl _, by rw [HE.out]; exact lf_at (w.drewN m) [_, _, _, _, _, _, _, _] _ _ rfl, (below_drewN (Below.refl w.heap.size w) m).alloc (Nat.le_refl _) _⟩
      · obtain ⟨f0, ⟨fb, f1, f2⟩, f3, f4⟩ := SS.out.fr j (by omega)
        have tb := HT.out j (by omega)
        have hpos : 0 < L := by omega
        obtain ⟨tj, htj⟩ : ∃ x, t j = x := ⟨_, rfl⟩
        rw [htj] at f4 tb
        have HTJ := Lib.hid htj
        clear htj
        rw [show par FB (j + 1) = some ⟨FB, j * 10, none⟩ from rfl]
        cases hg : g j with
        | true =>
          rw [hg] at f2
          have HG := Lib.hid hg
          clear hg
          go_wp2_with fail
          go_roundw
          case rel => exact ⟨j, L - 1, m, by omega, by omega, by omega, by go_num, rfl, Lib.hid (by rw [← HR.out]; conv => rhs; unfold run; rw [if_pos hpos, HG.out]; simp), rfl⟩
          case measure =>
            cases j with
            | zero => simp [par]
            | succ j => simp [par]
        | false =>
          rw [hg] at f2
          have HG := Lib.hid hg
          clear hg
          go_wp2_with fail
          go_roundw
          case rel => exact ⟨j, L - 1 - tj, m, by omega, by omega, by omega, by go_num, rfl, Lib.hid (by rw [← HR.out]; conv => rhs; unfold run; rw [if_pos hpos, HG.out, HTJ.out]; simp), rfl⟩
          case measure =>
            cases j with
            | zero => simp [par]
            | succ j => simp [par]
end Go.Proofs.Ytbpkncpkgmehiaa.gs
