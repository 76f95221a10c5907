/- Function contexts of n005_54: the maker, NewLabel, gotos filed in a map. -/
import Derived.Test.YtpkolfmdockdnaaFmtPool
import Derived.Maps.Own
import Derived.Maps.OwnSet
namespace Go.Proofs.YtpkolfmdockdnaaFmt
open Go.ChangeShapes Go.WideShapes Go.ChangeAt Go.RowKit
open Go.Maps (Keyed)
set_option linter.unusedVariables false

theorem run_store_map (P : Program) (w : World) (a : Addr) (m : Mode) (r : Option Nat) : (store a (.map r) m).run P w = stored P w a (.map r) m := run_store P w a _ m rfl

/-- How a pointer reads, for the map's sake: by its block. -/
def rdP : Value → Option (DataW Unit × List MemPlace)
  | .pointer none => some (.nil, [])
  | .pointer (some ⟨b, 0, none⟩) => some (.lit (.int .i64 b), [])
  | _ => none
theorem rdP_inv {v : Value} {n : Int} {ps : List MemPlace} {b : Nat} (hn : n = b) (h : rdP v = some (.lit (.int .i64 n), ps)) : v = .pointer (some ⟨b, 0, none⟩) := by
  unfold rdP at h
  split at h
  · simp at h
  · simp at h
    obtain ⟨h1, _⟩ := h
    have : (_ : Nat) = b := Int.ofNat.inj (by simpa [hn] using h1)
    rw [this]
  · cases h

theorem keyed : Keyed Tryf.prog 3 := Maps.int_keyed Tryf.underlying3
theorem zeroP (w : World) : (zeroValue 27).run Tryf.prog w = .ok (.pointer none) w := by kernel_rfl

/-- The map at M: keys 0 to n - 1, key i leads to block q i. -/
def Gm (w : World) (M n : Nat) (q : Nat → Nat) : Prop :=
  ∃ D : DataW Unit, w.ownsMap Tryf.prog 3 rdP M n D ∧ (∀ i : Nat, i < n → D.atKey (.int .i64 i) .nil = .lit (.int .i64 (q i))) ∧ Maps.size D = n ∧ ∀ i : Nat, n ≤ i → Maps.has D (.int .i64 i) = false
theorem key_wf {i : Nat} (h : i ≤ 1048576) : (Lit.int .i64 (i : Int)).wf = true := WalkArith.wf_i64 (by omega)
theorem key_ne {i j : Nat} (h : i ≠ j) : (Lit.int .i64 (i : Int)) ≠ Lit.int .i64 (j : Int) := fun e => h (by injection e with _ e; exact Int.ofNat.inj e)

theorem Gm.made (w : World) (q : Nat → Nat) {b : Nat} (h : w.heap[b]? = some (.map #[] 0)) : Gm w b 0 q := by
  refine ⟨.map [], ⟨#[], 0, h, ⟨by simp, MapKept.stamped_empty 0, by simp⟩, Nat.le_refl _, rfl⟩, fun i hi => by omega, rfl, fun i _ => rfl⟩
theorem Gm.keep {w w' : World} {M n : Nat} {q : Nat → Nat} (h : Gm w M n q) (hb : w'.heap[M]? = w.heap[M]?) : Gm w' M n q := by
  obtain ⟨D, ⟨es, clock, hm, r⟩, h2⟩ := h
  exact ⟨D, ⟨es, clock, hb.trans hm, r⟩, h2⟩
theorem Gm.lt {w : World} {M n : Nat} {q : Nat → Nat} (h : Gm w M n q) : M < w.heap.size := by
  obtain ⟨D, h1, _⟩ := h
  exact h1.lt
theorem Gm.look {w : World} {M n : Nat} {q : Nat → Nat} (h : Gm w M n q) {i : Nat} (hi : i < n) (hn : n ≤ 1048576) :
    (Instr.lookup 30 (.map (some M)) (.int .i64 i) false).run Tryf.prog w = .ok (.pointer (some ⟨q i, 0, none⟩)) w := by
  obtain ⟨D, h1, h2, _⟩ := h
  obtain ⟨v, ps, hr, hv⟩ := h1.lookup keyed Tryf.underlying30 (zeroP w) (show rdP (.pointer none) = some (.nil, []) from rfl) (Maps.keyOf_int_mk Tryf.underlying3 (key_wf (i := i) (by omega)))
  rw [h2 i hi] at hv
  rw [hr, rdP_inv rfl hv]
theorem Gm.len {w : World} {M n : Nat} {q : Nat → Nat} (h : Gm w M n q) (ty : TypeId) :
    (Builtin.len_ #[30] ty #[.map (some M)]).run Tryf.prog w = .ok (.int .i64 n) w := by
  obtain ⟨D, h1, _, h3, _⟩ := h
  have := h1.len (t := 30) Tryf.underlying30 ty
  rw [h3] at this
  exact this
theorem Gm.put {w w' : World} {M n : Nat} {q : Nat → Nat} {D : DataW Unit} (p : Nat) (h1 : w'.ownsMap Tryf.prog 3 rdP M (n + 1) (D.put (.int .i64 n) (.lit (.int .i64 (p : Int))))) (ho : w.ownsMap Tryf.prog 3 rdP M n D)
    (h2 : ∀ i : Nat, i < n → D.atKey (.int .i64 i) .nil = .lit (.int .i64 (q i))) (h3 : Maps.size D = n) (h4 : ∀ i : Nat, n ≤ i → Maps.has D (.int .i64 i) = false) (hn : n ≤ 1048576) :
    Gm w' M (n + 1) (fun i => if i = n then p else q i) := by
  have T := ho.tidy keyed
  have hk : WideAt.IsKeyLit (.int .i64 (n : Int)) := keyed.key (Maps.keyOf_int_mk Tryf.underlying3 (key_wf hn))
  refine ⟨_, h1, fun i hi => ?_, ?_, fun i hi => ?_⟩
  · by_cases e : i = n
    · subst e
      rw [Maps.atKey_put_same T.isMap hk]
      simp
    · rw [Maps.atKey_put_other (key_ne e)]
      simp only [if_neg e]
      exact h2 i (by omega)
  · rw [Maps.size_put T, h4 n (Nat.le_refl _), h3]
    rfl
  · rw [Maps.has_put_other (key_ne (by omega))]
    exact h4 i (by omega)

theorem desc_any (id : Int) (name : ByteArray) (pc line n : Int) (w : World) : Calls Tryf.prog 7 #[.int .i64 id, .string name, .int .i64 pc, .int .i64 line, .int .i64 n] w fun e w' => ∃ q, e = .returned (.pointer (some ⟨q, 0, none⟩)) ∧ w.heap.size ≤ q ∧ w'.rowIs q 34 5 (lf [.int .i64 id, .string name, .int .i64 pc, .int .i64 line, .int .i64 n]) ∧ Below w.heap.size w w' := by
  go_enter Tryf.func7, Tryf.ntmps7
  go_wp2_with (go_at_call 13; go_in)
  go_ret
  exact ⟨w.heap.size, rfl, Nat.le_refl _, lf_at w [_, _, _, _, _] _ _ rfl, (Below.refl w.heap.size w).alloc (Nat.le_refl _) _⟩
end Go.Proofs.YtpkolfmdockdnaaFmt
