/- The contract of zzBytes_FnEndScopeIdempotentAndLeavesFrame: it answers true only where the lengths sum to at most 2^20. -/
import Derived.Test.YticnfohoddlolaaTot
namespace Go.Proofs.Yticnfohoddlolaa
open Go.ChangeShapes Go.WideShapes Go.ChangeAt Go.RowKit
set_option linter.unusedVariables false

set_option maxHeartbeats 600000 in
theorem byFnEndScopeIdempotentAndLeavesFrame_any (w : World) (a0 : Int) (a1 : Option Addr) (n1 c1 : Nat) (z1 : List ByteArray) (r1 : IsRow .string ByteArray.empty w a1 n1 c1 z1) (q1 : ∀ z ∈ z1, z.size ≤ maxLen) (a2 : Option Addr) (n2 c2 : Nat) (z2 : List ByteArray) (r2 : IsRow .string ByteArray.empty w a2 n2 c2 z2) (q2 : ∀ z ∈ z2, z.size ≤ maxLen) (a3 : Int) (a4 : Option Addr) (n4 c4 : Nat) (m4 : n4 ≤ 9223372036854775807) (a5 : Int) :
    Calls Try.prog 7 #[.int .i64 a0, .slice a1 n1 c1, .slice a2 n2 c2, .int .i64 a3, .slice a4 n4 c4, .int .i64 a5] w (Said w (n1 + tot z1 n1 + n2 + tot z2 n2 + n4)) := by
  obtain ⟨hz1, _, hm1, _, hc1⟩ := r1
  unfold maxLen at hm1 q1
  have HZ1 := Lib.hid hz1
  have m1 : n1 ≤ 9223372036854775807 := by omega
  clear hz1
  obtain ⟨hz2, _, hm2, _, hc2⟩ := r2
  unfold maxLen at hm2 q2
  have HZ2 := Lib.hid hz2
  have m2 : n2 ≤ 9223372036854775807 := by omega
  clear hz2
  by_cases ha1 : (1048576 : Int) < (n1 : Int)
  · skip
    go_enter Try.func7, Try.ntmps7
    go_wp2
    all_goals (go_ret; exact ⟨false, rfl, (fun h => by cases h), Below.refl _ _⟩)
  go_enter Try.func7, Try.ntmps7
  go_wp2
  go_loopw [13, 14] (fun s i wr => ∃ k : Nat, k ≤ n1 ∧ i = .int .i64 k ∧ s = .int .i64 ((n1 + tot z1 k : Nat) : Int) ∧ n1 + tot z1 k ≤ 1048576 ∧ Below w.heap.size w wr) (fun _ i _ => n1 - (intOf i).toNat)
  case atStart => exact ⟨0, Nat.zero_le _, rfl, by simp [tot_zero], by simp [tot_zero]; omega, Below.refl _ _⟩
  case round =>
    obtain ⟨k, hk, rfl, rfl, hle, hbel⟩ := hrel
    by_cases hlt : k < n1
    · obtain ⟨b, off, hx, hbl, hcl⟩ := hc1 (by omega)
      obtain ⟨s, hs⟩ : ∃ s, z1.getD k ByteArray.empty = s := ⟨_, rfl⟩
      have hsz : s.size ≤ 9223372036854775807 := by rw [← hs]; exact getD_size q1 k
      have hcs : wr.cell? ⟨b, off + k, none⟩ = some (.string s) := by rw [← hs]; exact (hbel.cell (p := ⟨b, off + k, none⟩) hbl).trans (hcl k hlt)
      have HT := Lib.hid (tot_succ z1 k (by have := HZ1.out; omega))
      rw [hs] at HT
      have HX := Lib.hid hx
      rw [hx]
      clear hx hcl hs
      have hlt' : (k : Int) < (n1 : Int) := by omega
      generalize tot z1 k = t at *
      by_cases h1 : (1048576 : Int) < (s.size : Int)
      · go_wp2
        all_goals (go_ret; exact ⟨false, rfl, (fun h => by cases h), hbel⟩)
      by_cases h2 : (1048576 : Int) < ((n1 + t + s.size : Nat) : Int)
      · simp only [Int.natCast_add] at h2
        go_wp2
        all_goals (go_ret; exact ⟨false, rfl, (fun h => by cases h), hbel⟩)
      have h2' := h2
      simp only [Int.natCast_add] at h2'
      go_wp2
      go_roundw
      case rel => exact ⟨k + 1, by omega, by go_num, by rw [HT.out]; simp; omega, by rw [HT.out]; omega, hbel⟩
      case measure => simp [intOf]; omega
    · obtain rfl : n1 = k := by omega
      clear hlt
      by_cases ha2 : (1048576 : Int) < (n2 : Int)
      · skip
        go_wp2
        all_goals (go_ret; exact ⟨false, rfl, (fun h => by cases h), hbel⟩)
      by_cases hb2 : (1048576 : Int) < ((n1 + tot z1 n1 + n2 : Nat) : Int)
      · skip
        simp only [Int.natCast_add] at hb2
        go_wp2
        all_goals (go_ret; exact ⟨false, rfl, (fun h => by cases h), hbel⟩)
      have hb2' := hb2
      simp only [Int.natCast_add] at hb2'
      go_wp2
      obtain ⟨wo2, hwo2⟩ : ∃ x : World, x = wr := ⟨_, rfl⟩
      rw [← hwo2]
      have bo2 := hbel
      rw [← hwo2] at bo2
      clear hwo2
      go_loopw [13, 15] (fun s i wr => ∃ k : Nat, k ≤ n2 ∧ i = .int .i64 k ∧ s = .int .i64 ((n1 + tot z1 n1 + n2 + tot z2 k : Nat) : Int) ∧ n1 + tot z1 n1 + n2 + tot z2 k ≤ 1048576 ∧ Below w.heap.size w wr) (fun _ i _ => n2 - (intOf i).toNat)
      case atStart => exact ⟨0, Nat.zero_le _, rfl, by simp [tot_zero], by simp [tot_zero]; omega, bo2⟩
      case round =>
        obtain ⟨k, hk, rfl, rfl, hle, hbel⟩ := hrel
        by_cases hlt : k < n2
        · obtain ⟨b, off, hx, hbl, hcl⟩ := hc2 (by omega)
          obtain ⟨s, hs⟩ : ∃ s, z2.getD k ByteArray.empty = s := ⟨_, rfl⟩
          have hsz : s.size ≤ 9223372036854775807 := by rw [← hs]; exact getD_size q2 k
          have hcs : wr.cell? ⟨b, off + k, none⟩ = some (.string s) := by rw [← hs]; exact (hbel.cell (p := ⟨b, off + k, none⟩) hbl).trans (hcl k hlt)
          have HT := Lib.hid (tot_succ z2 k (by have := HZ2.out; omega))
          rw [hs] at HT
          have HX := Lib.hid hx
          rw [hx]
          clear hx hcl hs
          have hlt' : (k : Int) < (n2 : Int) := by omega
          generalize tot z2 k = t at *
          by_cases h1 : (1048576 : Int) < (s.size : Int)
          · go_wp2
            all_goals (go_ret; exact ⟨false, rfl, (fun h => by cases h), hbel⟩)
          by_cases h2 : (1048576 : Int) < ((n1 + tot z1 n1 + n2 + t + s.size : Nat) : Int)
          · simp only [Int.natCast_add] at h2
            go_wp2
            all_goals (go_ret; exact ⟨false, rfl, (fun h => by cases h), hbel⟩)
          have h2' := h2
          simp only [Int.natCast_add] at h2'
          go_wp2
          go_roundw
          case rel => exact ⟨k + 1, by omega, by go_num, by rw [HT.out]; simp; omega, by rw [HT.out]; omega, hbel⟩
          case measure => simp [intOf]; omega
        · obtain rfl : n2 = k := by omega
          clear hlt
          by_cases ha4 : (1048576 : Int) < (n4 : Int)
          · skip
            go_wp2
            all_goals (go_ret; exact ⟨false, rfl, (fun h => by cases h), hbel⟩)
          by_cases hb4 : (1048576 : Int) < ((n1 + tot z1 n1 + n2 + tot z2 n2 + n4 : Nat) : Int)
          · skip
            simp only [Int.natCast_add] at hb4
            go_wp2
            all_goals (go_ret; exact ⟨false, rfl, (fun h => by cases h), hbel⟩)
          have hb4' := hb4
          simp only [Int.natCast_add] at hb4'
          go_wp2
          go_ret
          exact ⟨true, rfl, fun _ => by omega, hbel⟩
end Go.Proofs.Yticnfohoddlolaa
