/- The contract of zzBytes_FnLeaveBlockAgreesWithCloseThenEndScope: it answers true only where the lengths sum to at most 2^20. -/
import Derived.Test.YticnfohoddlolaaFmtTot
namespace Go.Proofs.YticnfohoddlolaaFmt
open Go.ChangeShapes Go.WideShapes Go.ChangeAt Go.RowKit
set_option linter.unusedVariables false

set_option maxHeartbeats 600000 in
theorem byFnLeaveBlockAgreesWithCloseThenEndScope_any (w : World) (a0 : Bool) (a1 : Int) (a2 : Option Addr) (n2 c2 : Nat) (z2 : List ByteArray) (r2 : IsRow .string ByteArray.empty w a2 n2 c2 z2) (q2 : ∀ z ∈ z2, z.size ≤ maxLen) (a3 : Option Addr) (n3 c3 : Nat) (z3 : List ByteArray) (r3 : IsRow .string ByteArray.empty w a3 n3 c3 z3) (q3 : ∀ z ∈ z3, z.size ≤ maxLen) (a4 : Int) (a5 : Option Addr) (n5 c5 : Nat) (m5 : n5 ≤ 9223372036854775807) (a6 : Option Addr) (n6 c6 : Nat) (m6 : n6 ≤ 9223372036854775807) :
    Calls Tryf.prog 7 #[.bool a0, .int .i64 a1, .slice a2 n2 c2, .slice a3 n3 c3, .int .i64 a4, .slice a5 n5 c5, .slice a6 n6 c6] w (Said w (n2 + tot z2 n2 + n3 + tot z3 n3 + n5 + n6)) := by
  obtain ⟨hz2, _, hm2, _, hc2⟩ := r2
  unfold maxLen at hm2 q2
  have HZ2 := Lib.hid hz2
  have m2 : n2 ≤ 9223372036854775807 := by omega
  clear hz2
  obtain ⟨hz3, _, hm3, _, hc3⟩ := r3
  unfold maxLen at hm3 q3
  have HZ3 := Lib.hid hz3
  have m3 : n3 ≤ 9223372036854775807 := by omega
  clear hz3
  by_cases ha2 : (1048576 : Int) < (n2 : Int)
  · skip
    go_enter Tryf.func7, Tryf.ntmps7
    go_wp2
    all_goals (go_ret; exact ⟨false, rfl, (fun h => by cases h), Below.refl _ _⟩)
  go_enter Tryf.func7, Tryf.ntmps7
  go_wp2
  go_loopw [15, 16] (fun s i wr => ∃ k : Nat, k ≤ n2 ∧ i = .int .i64 k ∧ s = .int .i64 ((n2 + tot z2 k : Nat) : Int) ∧ n2 + tot z2 k ≤ 1048576 ∧ Below w.heap.size w wr) (fun _ i _ => n2 - (intOf i).toNat)
  case atStart => exact ⟨0, Nat.zero_le _, rfl, by simp [tot_zero], by simp [tot_zero]; omega, Below.refl _ _⟩
  case round =>
    obtain ⟨k, hk, rfl, rfl, hle, hbel⟩ := hrel
    by_cases hlt : k < n2
    · obtain ⟨b, off, hx, hbl, hcl⟩ := hc2 (by omega)
      obtain ⟨s, hs⟩ : ∃ s, z2.getD k ByteArray.empty = s := ⟨_, rfl⟩
      have hsz : s.size ≤ 9223372036854775807 := by rw [← hs]; exact getD_size q2 k
      have hcs : wr.cell? ⟨b, off + k, none⟩ = some (.string s) := by rw [← hs]; exact (hbel.cell (p := ⟨b, off + k, none⟩) hbl).trans (hcl k hlt)
      have HT := Lib.hid (tot_succ z2 k (by have := HZ2.out; omega))
      rw [hs] at HT
      have HX := Lib.hid hx
      rw [hx]
      clear hx hcl hs
      have hlt' : (k : Int) < (n2 : Int) := by omega
      generalize tot z2 k = t at *
      by_cases h1 : (1048576 : Int) < (s.size : Int)
      · go_wp2
        all_goals (go_ret; exact ⟨false, rfl, (fun h => by cases h), hbel⟩)
      by_cases h2 : (1048576 : Int) < ((n2 + t + s.size : Nat) : Int)
      · simp only [Int.natCast_add] at h2
        go_wp2
        all_goals (go_ret; exact ⟨false, rfl, (fun h => by cases h), hbel⟩)
      have h2' := h2
      simp only [Int.natCast_add] at h2'
      go_wp2
      go_roundw
      case rel => exact ⟨k + 1, by omega, by go_num, by rw [HT.out]; simp; omega, by rw [HT.out]; omega, hbel⟩
      case measure => simp [intOf]; omega
    · obtain rfl : n2 = k := by omega
      clear hlt
      by_cases ha3 : (1048576 : Int) < (n3 : Int)
      · skip
        go_wp2
        all_goals (go_ret; exact ⟨false, rfl, (fun h => by cases h), hbel⟩)
      by_cases hb3 : (1048576 : Int) < ((n2 + tot z2 n2 + n3 : Nat) : Int)
      · skip
        simp only [Int.natCast_add] at hb3
        go_wp2
        all_goals (go_ret; exact ⟨false, rfl, (fun h => by cases h), hbel⟩)
      have hb3' := hb3
      simp only [Int.natCast_add] at hb3'
      go_wp2
      obtain ⟨wo3, hwo3⟩ : ∃ x : World, x = wr := ⟨_, rfl⟩
      rw [← hwo3]
      have bo3 := hbel
      rw [← hwo3] at bo3
      clear hwo3
      go_loopw [15, 17] (fun s i wr => ∃ k : Nat, k ≤ n3 ∧ i = .int .i64 k ∧ s = .int .i64 ((n2 + tot z2 n2 + n3 + tot z3 k : Nat) : Int) ∧ n2 + tot z2 n2 + n3 + tot z3 k ≤ 1048576 ∧ Below w.heap.size w wr) (fun _ i _ => n3 - (intOf i).toNat)
      case atStart => exact ⟨0, Nat.zero_le _, rfl, by simp [tot_zero], by simp [tot_zero]; omega, bo3⟩
      case round =>
        obtain ⟨k, hk, rfl, rfl, hle, hbel⟩ := hrel
        by_cases hlt : k < n3
        · obtain ⟨b, off, hx, hbl, hcl⟩ := hc3 (by omega)
          obtain ⟨s, hs⟩ : ∃ s, z3.getD k ByteArray.empty = s := ⟨_, rfl⟩
          have hsz : s.size ≤ 9223372036854775807 := by rw [← hs]; exact getD_size q3 k
          have hcs : wr.cell? ⟨b, off + k, none⟩ = some (.string s) := by rw [← hs]; exact (hbel.cell (p := ⟨b, off + k, none⟩) hbl).trans (hcl k hlt)
          have HT := Lib.hid (tot_succ z3 k (by have := HZ3.out; omega))
          rw [hs] at HT
          have HX := Lib.hid hx
          rw [hx]
          clear hx hcl hs
          have hlt' : (k : Int) < (n3 : Int) := by omega
          generalize tot z3 k = t at *
          by_cases h1 : (1048576 : Int) < (s.size : Int)
          · go_wp2
            all_goals (go_ret; exact ⟨false, rfl, (fun h => by cases h), hbel⟩)
          by_cases h2 : (1048576 : Int) < ((n2 + tot z2 n2 + n3 + t + s.size : Nat) : Int)
          · simp only [Int.natCast_add] at h2
            go_wp2
            all_goals (go_ret; exact ⟨false, rfl, (fun h => by cases h), hbel⟩)
          have h2' := h2
          simp only [Int.natCast_add] at h2'
          go_wp2
          go_roundw
          case rel => exact ⟨k + 1, by omega, by go_num, by rw [HT.out]; simp; omega, by rw [HT.out]; omega, hbel⟩
          case measure => simp [intOf]; omega
        · obtain rfl : n3 = k := by omega
          clear hlt
          by_cases ha5 : (1048576 : Int) < (n5 : Int)
          · skip
            go_wp2
            all_goals (go_ret; exact ⟨false, rfl, (fun h => by cases h), hbel⟩)
          by_cases hb5 : (1048576 : Int) < ((n2 + tot z2 n2 + n3 + tot z3 n3 + n5 : Nat) : Int)
          · skip
            simp only [Int.natCast_add] at hb5
            go_wp2
            all_goals (go_ret; exact ⟨false, rfl, (fun h => by cases h), hbel⟩)
          have hb5' := hb5
          simp only [Int.natCast_add] at hb5'
          by_cases ha6 : (1048576 : Int) < (n6 : Int)
          · skip
            go_wp2
            all_goals (go_ret; exact ⟨false, rfl, (fun h => by cases h), hbel⟩)
          by_cases hb6 : (1048576 : Int) < ((n2 + tot z2 n2 + n3 + tot z3 n3 + n5 + n6 : Nat) : Int)
          · skip
            simp only [Int.natCast_add] at hb6
            go_wp2
            all_goals (go_ret; exact ⟨false, rfl, (fun h => by cases h), hbel⟩)
          have hb6' := hb6
          simp only [Int.natCast_add] at hb6'
          go_wp2
          go_ret
          exact ⟨true, rfl, fun _ => by omega, hbel⟩
end Go.Proofs.YticnfohoddlolaaFmt
