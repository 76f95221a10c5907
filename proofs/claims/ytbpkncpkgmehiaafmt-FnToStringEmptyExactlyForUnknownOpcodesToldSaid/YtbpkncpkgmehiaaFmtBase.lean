/- What every text of this seat shares: how an argument slice reads as a list, with the bounds that the walks need. Conditions: none beyond the rows' own. -/
import Derived.Test.YtbpkncpkgmehiaaFmtRows
import Derived.WalkKit
import Derived.WalkSpells
import Derived.WalkLawsBesides
import Derived.ProofKit
import Derived.OpenShut
import Derived.ShutString
import Derived.ChangeOld
import Derived.Below
import Derived.Carry
import Derived.Lib.Hide
import Derived.Deep.Slices
import Derived.Deep.QuietTactic
import Derived.BigQuiet
import Derived.Outline
namespace Go.Proofs.YtbpkncpkgmehiaaFmt
open Go.ChangeShapes Go.WideShapes Go.ChangeAt Go.RowKit
set_option linter.unusedVariables false

theorem own : ownKnob Tryf.prog.godebug = none := by kernel_rfl
theorem laidOut : laidOutB Tryf.prog = true := by kernel_rfl

/-- What the walk is told of a slice that came in: its elements read as the list zs. -/
def IsRow {α : Type} (mk : α → Value) (d : α) (w : World) (a : Option Addr) (len cap : Nat) (zs : List α) : Prop :=
  zs.length = len ∧ len ≤ cap ∧ cap ≤ maxLen ∧ (a = none → cap = 0) ∧
    (0 < len → ∃ b off, a = some ⟨b, off, none⟩ ∧ b < w.heap.size ∧ ∀ i, i < len → w.cell? ⟨b, off + i, none⟩ = some (mk (zs.getD i d)))

section
variable {H : Type} {enc : TypeId × Value → H} {P : Program} {W : World}

theorem trod_float {base : Nat} {sp : Nat → Bool} {held : Bool} {fuel : Nat} {t : TypeId} {k : FloatKind} {v : Value} {x : DataW H × List MemPlace} (ht : P.underlying t = some (.float k)) (h : DataW.trod enc P W base sp held fuel t [v] = some x) :
    ∃ b, v = .float k b ∧ (Lit.float k b).wf = true := by
  cases fuel with
  | zero => simp [DataW.trod] at h
  | succ n =>
    cases v <;> simp [DataW.trod, ht] at h
    rename_i k' b
    obtain ⟨⟨rfl, h2⟩, _⟩ := h
    exact ⟨b, rfl, h2⟩

theorem cell_block_lt {w : World} {p : Addr} {v : Value} (h : w.cell? p = some v) : p.block < w.heap.size := by
  unfold World.cell? at h
  by_cases hb : p.block < w.heap.size
  · exact hb
  · rw [Array.getElem?_eq_none (by omega)] at h
    simp at h

theorem open_rowOf {α : Type} (mk : α → Value) (d : α) (Q : α → Prop) {t e : TypeId} {a : Option Addr} {len cap : Nat} {y : DataW H} {ps : List MemPlace} (ht : P.underlying t = some (.slice e)) (hc : P.cellsOf e = 1)
    (hel : ∀ n v x, DataW.trod enc P W 0 (fun _ => true) true n e [v] = some x → ∃ z, v = mk z ∧ Q z)
    (h : DataW.Trod enc P W 0 (fun _ => true) true t (.slice a len cap) y ps) : ∃ zs : List α, IsRow mk d W a len cap zs ∧ ∀ z ∈ zs, Q z := by
  obtain ⟨fuel, hf⟩ := h
  rcases Go.Deep.open_slice1 ht hc hf with ⟨hcs, _⟩ | ⟨a', len', cap', m, n, V, D, Pl, hcs, _, hl, hm, hmm, _, hx⟩
  · simp [Value.cells] at hcs
    obtain ⟨rfl, rfl, rfl⟩ := hcs
    exact ⟨[], ⟨rfl, Nat.le_refl _, by unfold maxLen; omega, fun _ => rfl, fun h => absurd h (by omega)⟩, by simp⟩
  · simp [Value.cells] at hcs
    obtain ⟨rfl, rfl, rfl⟩ := hcs
    simp at hmm
    subst hmm
    have hz : ∀ i, ∃ z, i < len → V i = mk z ∧ Q z := by
      intro i
      by_cases hi : i < len
      · obtain ⟨z, hz⟩ := hel n (V i) _ (hx i (by omega)).2
        exact ⟨z, fun _ => hz⟩
      · exact ⟨d, fun h => absurd h hi⟩
    obtain ⟨Z, hZ⟩ := Classical.axiomOfChoice hz
    refine ⟨(List.range len).map Z, ⟨by simp, hl, hm, (fun h => by cases h), fun h0 => ?_⟩, ?_⟩
    · obtain ⟨b, off, spot⟩ := a'
      have h0c := (hx 0 (by omega)).1
      have hs : spot = none := by simpa [Addr.add] using World.cell?_spot h0c
      subst hs
      refine ⟨b, off, rfl, by simpa [Addr.add] using cell_block_lt h0c, fun i hi => ?_⟩
      have := (hx i (by omega)).1
      rw [(hZ i hi).1] at this
      by_cases hi0 : i = 0
      · subst hi0; simpa [Addr.add, List.getD, hi] using this
      · simpa [Addr.add, List.getD, hi, hi0] using this
    · intro z hz
      simp at hz
      obtain ⟨i, hi, rfl⟩ := hz
      exact (hZ i hi).2

theorem open_rowInt {k : IntKind} {t e : TypeId} {a : Option Addr} {len cap : Nat} {y : DataW H} {ps : List MemPlace} (ht : P.underlying t = some (.slice e)) (he : P.underlying e = some (.int k)) (hc : P.cellsOf e = 1)
    (h : DataW.Trod enc P W 0 (fun _ => true) true t (.slice a len cap) y ps) : ∃ zs : List Int, IsRow (.int k) 0 W a len cap zs ∧ ∀ z ∈ zs, (Lit.int k z).wf = true :=
  open_rowOf (.int k) 0 (fun z => (Lit.int k z).wf = true) ht hc (fun n v x h => by
    obtain ⟨z, hz, _, hw⟩ := DataW.trod_int he h
    exact ⟨z, by simpa using hz, hw⟩) h

theorem open_rowStr {t e : TypeId} {a : Option Addr} {len cap : Nat} {y : DataW H} {ps : List MemPlace} (ht : P.underlying t = some (.slice e)) (he : P.underlying e = some .string) (hc : P.cellsOf e = 1)
    (h : DataW.Trod enc P W 0 (fun _ => true) true t (.slice a len cap) y ps) : ∃ zs : List ByteArray, IsRow .string ByteArray.empty W a len cap zs ∧ ∀ z ∈ zs, z.size ≤ maxLen :=
  open_rowOf .string ByteArray.empty (fun z => z.size ≤ maxLen) ht hc (fun n v x h => by
    obtain ⟨z, hz, _, hw⟩ := DataW.trod_string he h
    exact ⟨z, by simpa using hz, hw⟩) h

theorem open_rowBool {t e : TypeId} {a : Option Addr} {len cap : Nat} {y : DataW H} {ps : List MemPlace} (ht : P.underlying t = some (.slice e)) (he : P.underlying e = some .bool) (hc : P.cellsOf e = 1)
    (h : DataW.Trod enc P W 0 (fun _ => true) true t (.slice a len cap) y ps) : ∃ zs : List Bool, IsRow .bool false W a len cap zs ∧ ∀ z ∈ zs, True :=
  open_rowOf .bool false (fun _ => True) ht hc (fun n v x h => by
    obtain ⟨z, hz, _⟩ := DataW.trod_bool he h
    exact ⟨z, by simpa using hz, trivial⟩) h

theorem open_rowFloat {k : FloatKind} {t e : TypeId} {a : Option Addr} {len cap : Nat} {y : DataW H} {ps : List MemPlace} (ht : P.underlying t = some (.slice e)) (he : P.underlying e = some (.float k)) (hc : P.cellsOf e = 1)
    (h : DataW.Trod enc P W 0 (fun _ => true) true t (.slice a len cap) y ps) : ∃ zs : List Nat, IsRow (.float k) 0 W a len cap zs ∧ ∀ z ∈ zs, (Lit.float k z).wf = true :=
  open_rowOf (.float k) 0 (fun z => (Lit.float k z).wf = true) ht hc (fun n v x h => trod_float he h) h
end
end Go.Proofs.YtbpkncpkgmehiaaFmt
