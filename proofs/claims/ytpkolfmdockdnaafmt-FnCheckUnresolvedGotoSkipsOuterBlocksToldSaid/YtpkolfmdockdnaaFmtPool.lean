/- Pools of names, blocks, chains of blocks (n005_54): makers, Register, LocalVarsCount. -/
import Derived.Test.YtpkolfmdockdnaaFmtRows2
import Derived.Laws.AppendOwn
import Derived.OwnWalk
import Derived.Laws.Entries
namespace Go.Proofs.YtpkolfmdockdnaaFmt
open Go.ChangeShapes Go.WideShapes Go.ChangeAt Go.RowKit
set_option linter.unusedVariables false

/-- A row's content, from the list of its cells. -/
def lf (l : List Value) : Nat → Value := fun i => l.getD i undef
theorem lf_at (w : World) (l : List Value) (T k : Nat) (hk : k = w.heap.size) : (w.alloc (.cells l.toArray T)).rowIs k T l.length (lf l) := by
  subst hk
  have := World.rowIs_alloc w l.toArray T (lf l) (fun i hi => by
    have hi' : i < l.length := by simpa using hi
    simp [lf, List.getD, hi'])
  simpa using this
theorem own_form {w : World} {B : Nat} {T : TypeId} {v : Value} {n : Nat} {xs : List Value} (h : w.ownsRow B T 1 v n xs) (hn : 0 < n) : ∃ g cap, v = .slice (some ⟨g, 0, none⟩) n cap ∧ B ≤ g ∧ g < w.heap.size := by
  obtain ⟨_, h | ⟨g, cap, cur, hv, hg, hh, _⟩⟩ := h
  · omega
  · exact ⟨g, cap, hv, hg, lt_of_block hh⟩
theorem own_ge {w : World} {B T : Nat} {v : Value} {n : Nat} {xs : List Value} (h : w.ownsRow B T 1 v n xs) {k : Nat} (hk : k < B) : v.ownBlock ≠ some k := by
  obtain ⟨_, ⟨rfl, _⟩ | ⟨g, cap, cur, rfl, hg, _⟩⟩ := h
  · simp [Value.ownBlock]
  · simp [Value.ownBlock]; omega
theorem own_ne_row {w : World} {B c m T T' : Nat} {f : Nat → Value} {v : Value} {n : Nat} {xs : List Value} (hs : w.rowIs c T m f) (h : w.ownsRow B T' 1 v n xs) (hT : T ≠ T') : v.ownBlock ≠ some c := by
  obtain ⟨_, ⟨rfl, _⟩ | ⟨g, cap, cur, rfl, _, hh, _⟩⟩ := h
  · simp [Value.ownBlock]
  · obtain ⟨cs, hc, _⟩ := hs
    intro e
    simp [Value.ownBlock] at e
    subst e
    rw [hc] at hh
    simp at hh
    exact hT hh.2
theorem own_alloc (w : World) (T : TypeId) (c : Nat) (z : Value) (hc : c ≤ maxLen) : (w.alloc (.cells (Array.replicate c z) T)).ownsRow w.heap.size T 1 (.slice (some ⟨w.heap.size, 0, none⟩) 0 c) 0 [] := by
  exact ⟨rfl, .inr ⟨w.heap.size, c, Array.replicate c z, rfl, Nat.le_refl _, Go.Deep.blk_alloc_new _ _, Nat.zero_le _, hc, by simp, by simp⟩⟩

theorem infoS : (Tryf.prog.info? 9).map (fun i => (i.zero, i.size, i.bytes)) = some (some (Value.string ByteArray.empty), 1, 16) := by kernel_rfl

/-- A pool at p: n names, the slice's array owned from B on. -/
def Pool (w : World) (B p n : Nat) (off : Int) : Prop := ∃ a c xs, w.rowIs p 71 2 (lf [.slice a n c, .int .i64 off]) ∧ w.ownsRow B 9 1 (.slice a n c) n xs

theorem own_below {w w' : World} {B T : Nat} {v : Value} {n : Nat} {xs : List Value} (h : w.ownsRow B T 1 v n xs) (b : Below w.heap.size w w') : w'.ownsRow B T 1 v n xs := by
  obtain ⟨h1, h | ⟨g, cap, cur, hv, hg, hh, r⟩⟩ := h
  · exact ⟨h1, .inl h⟩
  · exact ⟨h1, .inr ⟨g, cap, cur, hv, hg, (b.block g (lt_of_block hh)).trans hh, r⟩⟩
theorem Pool.below {w w' : World} {B p n : Nat} {off : Int} (h : Pool w B p n off) (b : Below w.heap.size w w') : Pool w' B p n off := by
  obtain ⟨a, c, xs, hs, ho⟩ := h
  exact ⟨a, c, xs, hs.of_block (b.block _ hs.lt), own_below ho b⟩

theorem newPool_any (off : Int) (w : World) : Calls Tryf.prog 17 #[.int .i64 off] w fun e w' => e = .returned (.pointer (some ⟨w.heap.size + 1, 0, none⟩)) ∧ Pool w' w.heap.size (w.heap.size + 1) 0 off ∧ w'.heap.size = w.heap.size + 2 ∧ Below w.heap.size w w' := by
  have hmk : ∀ W : World, (Instr.makeSlice 22 (.int .i64 0) (.int .i64 16)).run Tryf.prog W = .ok (.slice (some ⟨W.heap.size, 0, none⟩) 0 16) (W.alloc (.cells (Array.replicate 16 (.string ByteArray.empty)) 9)) := fun _ => by kernel_rfl
  go_enter Tryf.func17, Tryf.ntmps17
  go_wp2
  go_ret
  refine ⟨rfl, ⟨some ⟨w.heap.size, 0, none⟩, 16, [], ?_, ?_⟩, by simp, by repeat (first | exact Below.refl _ _ | (refine Below.alloc ?_ (by simp <;> omega) _))⟩
  · exact lf_at _ [_, _] _ _ (by simp)
  · exact (own_alloc w 9 16 (.string ByteArray.empty) (by unfold maxLen; omega)).alloc _

end Go.Proofs.YtpkolfmdockdnaaFmt
