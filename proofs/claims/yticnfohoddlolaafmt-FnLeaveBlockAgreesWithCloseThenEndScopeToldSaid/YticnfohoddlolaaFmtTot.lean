/- Sums of the lengths of strings. -/
import Derived.Test.YticnfohoddlolaaFmtRows2
namespace Go.Proofs.YticnfohoddlolaaFmt
open Go.ChangeShapes Go.WideShapes Go.ChangeAt Go.RowKit
set_option linter.unusedVariables false

def tot (zs : List ByteArray) (k : Nat) : Nat := ((zs.take k).map ByteArray.size).sum
theorem tot_zero (zs : List ByteArray) : tot zs 0 = 0 := by simp [tot]
theorem tot_succ (zs : List ByteArray) (k : Nat) (hk : k < zs.length) : tot zs (k + 1) = tot zs k + (zs.getD k ByteArray.empty).size := by
  unfold tot
  rw [List.take_succ_eq_append_getElem hk, List.map_append, List.sum_append]
  congr 1
  simp [List.getD, hk]
theorem tot_le (zs : List ByteArray) {k n : Nat} (h : k ≤ n) : tot zs k ≤ tot zs n := by
  unfold tot
  induction zs generalizing k n with
  | nil => simp
  | cons x xs ih =>
    cases k with
    | zero => simp
    | succ k =>
      cases n with
      | zero => omega
      | succ n =>
        have := @ih k n (by omega)
        simp only [List.take_succ_cons, List.map_cons, List.sum_cons]
        omega
theorem getD_size {zs : List ByteArray} (h : ∀ z ∈ zs, z.size ≤ 9223372036854775807) (k : Nat) : (zs.getD k ByteArray.empty).size ≤ 9223372036854775807 := by
  by_cases hk : k < zs.length
  · have e : zs.getD k ByteArray.empty = zs[k] := by simp [List.getD, hk]
    rw [e]
    exact h _ (List.getElem_mem hk)
  · have e : zs.getD k ByteArray.empty = ByteArray.empty := by simp [List.getD, List.getElem?_eq_none (Nat.le_of_not_lt hk)]
    rw [e]
    simp

/-- A yes bounds t; nothing that was there has changed. -/
def Said (w : World) (t : Nat) (e : Ending) (w' : World) : Prop := ∃ b, e = .returned (.bool b) ∧ (b = true → t ≤ 1048576) ∧ Below w.heap.size w w'
end Go.Proofs.YticnfohoddlolaaFmt
