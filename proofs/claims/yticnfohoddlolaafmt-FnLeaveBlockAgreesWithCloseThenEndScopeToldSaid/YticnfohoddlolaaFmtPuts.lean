/- The frame behind a drawn region, as the puts of its operations. -/
import Derived.Test.YticnfohoddlolaaFmtInv
namespace Go.Proofs.YticnfohoddlolaaFmt.inv
open Go.ChangeShapes Go.WideShapes Go.ChangeAt Go.RowKit
set_option linter.unusedVariables false

def puts : List Nat → (Nat → Value) → Nat → Act → Act
  | [], _, _, a => a
  | d :: ds, v, i, a => puts ds v (i + 1) (a.put (some d) (v i))
theorem sl_fr (ds : List Nat) (v : Nat → Value) (a0 : Act) (t : Nat) (ht : t < a0.tmps.size) : sl (fr ds v a0) t = if ds.contains t then v (ds.idxOf t) else sl a0 t := by
  simp [sl, fr, Array.getD, ht]
theorem fr_puts : ∀ (ds : List Nat) (v : Nat → Value) (i : Nat) (a0 : Act), ds.Nodup → (∀ d ∈ ds, d < a0.tmps.size) → fr ds (fun j => v (i + j)) a0 = puts ds v i a0
  | [], v, i, a0, _, _ => by
    refine Act.eq_of _ _ (by simp [fr, puts]) (fun t ht => ?_) rfl
    have ht' : t < a0.tmps.size := by simpa [fr] using ht
    rw [sl_fr _ _ _ _ ht']
    rfl
  | d :: ds, v, i, a0, hnd, hin => by
    have hnd' := List.nodup_cons.1 hnd
    have hd := hin d (by simp)
    rw [puts, ← fr_puts ds v (i + 1) (a0.put (some d) (v i)) hnd'.2 (fun x hx => by simpa [Act.put] using hin x (by simp [hx]))]
    refine Act.eq_of _ _ (by simp [fr, Act.put]) (fun t ht => ?_) rfl
    have ht' : t < a0.tmps.size := by simpa [fr] using ht
    rw [sl_fr _ _ _ _ ht', sl_fr _ _ _ _ (by simpa [Act.put] using ht')]
    by_cases e : t = d
    · subst e
      have hc : ds.contains t = false := by simpa using hnd'.1
      rw [hc, sl_put_same _ _ _ hd]
      simp
    · rw [sl_put_other _ _ _ _ e]
      have e' : ¬ d = t := fun x => e x.symm
      simp only [List.contains_cons, List.idxOf_cons]
      have hb : (t == d) = false := by simpa using e
      have hb' : (d == t) = false := by simpa using e'
      simp only [hb, hb', Bool.false_or, cond_false]
      congr 2
      omega
theorem fr_puts0 (ds : List Nat) (v : Nat → Value) (a0 : Act) (hnd : ds.Nodup) (hin : ∀ d ∈ ds, d < a0.tmps.size) : fr ds v a0 = puts ds v 0 a0 := by
  rw [← fr_puts ds v 0 a0 hnd hin]
  simp
end Go.Proofs.YticnfohoddlolaaFmt.inv
