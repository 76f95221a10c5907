/- The contract of zzBytes_FnCheckUnresolvedGotoSkipsOuterBlocks: it answers true only where the lengths sum to at most 2^20. -/
import Derived.Test.YtpkolfmdockdnaaFmtTot
namespace Go.Proofs.YtpkolfmdockdnaaFmt
open Go.ChangeShapes Go.WideShapes Go.ChangeAt Go.RowKit
set_option linter.unusedVariables false

set_option maxHeartbeats 600000 in
theorem byFnCheckUnresolvedGotoSkipsOuterBlocks_any (w : World) (a0 : Option Addr) (n0 c0 : Nat) (z0 : List ByteArray) (r0 : IsRow .string ByteArray.empty w a0 n0 c0 z0) (q0 : ∀ z ∈ z0, z.size ≤ maxLen) :
    Calls Tryf.prog 4 #[.slice a0 n0 c0] w (Said w (n0 + tot z0 n0)) := by
  obtain ⟨hz0, _, hm0, _, hc0⟩ := r0
  unfold maxLen at hm0 q0
  have HZ0 := Lib.hid hz0
  have m0 : n0 ≤ 9223372036854775807 := by omega
  clear hz0
  by_cases ha0 : (1048576 : Int) < (n0 : Int)
  · skip
    go_enter Tryf.func4, Tryf.ntmps4
    go_wp2
    all_goals (go_ret; exact ⟨false, rfl, (fun h => by cases h), Below.refl _ _⟩)
  go_enter Tryf.func4, Tryf.ntmps4
  go_wp2
  go_loopw [3, 4] (fun s i wr => ∃ k : Nat, k ≤ n0 ∧ i = .int .i64 k ∧ s = .int .i64 ((n0 + tot z0 k : Nat) : Int) ∧ n0 + tot z0 k ≤ 1048576 ∧ Below w.heap.size w wr) (fun _ i _ => n0 - (intOf i).toNat)
  case atStart => exact ⟨0, Nat.zero_le _, rfl, by simp [tot_zero], by simp [tot_zero]; omega, Below.refl _ _⟩
  case round =>
    obtain ⟨k, hk, rfl, rfl, hle, hbel⟩ := hrel
    by_cases hlt : k < n0
    · obtain ⟨b, off, hx, hbl, hcl⟩ := hc0 (by omega)
      obtain ⟨s, hs⟩ : ∃ s, z0.getD k ByteArray.empty = s := ⟨_, rfl⟩
      have hsz : s.size ≤ 9223372036854775807 := by rw [← hs]; exact getD_size q0 k
      have hcs : wr.cell? ⟨b, off + k, none⟩ = some (.string s) := by rw [← hs]; exact (hbel.cell (p := ⟨b, off + k, none⟩) hbl).trans (hcl k hlt)
      have HT := Lib.hid (tot_succ z0 k (by have := HZ0.out; omega))
      rw [hs] at HT
      have HX := Lib.hid hx
      rw [hx]
      clear hx hcl hs
      have hlt' : (k : Int) < (n0 : Int) := by omega
      generalize tot z0 k = t at *
      by_cases h1 : (1048576 : Int) < (s.size : Int)
      · go_wp2
        all_goals (go_ret; exact ⟨false, rfl, (fun h => by cases h), hbel⟩)
      by_cases h2 : (1048576 : Int) < ((n0 + t + s.size : Nat) : Int)
      · simp only [Int.natCast_add] at h2
        go_wp2
        all_goals (go_ret; exact ⟨false, rfl, (fun h => by cases h), hbel⟩)
      have h2' := h2
      simp only [Int.natCast_add] at h2'
      go_wp2
      go_roundw
      case rel => exact ⟨k + 1, by omega, by go_num, by rw [HT.out]; simp; omega, by rw [HT.out]; omega, hbel⟩
      case measure => simp [intOf]; omega
    · obtain rfl : n0 = k := by omega
      clear hlt
      go_wp2
      go_ret
      exact ⟨true, rfl, fun _ => by omega, hbel⟩
end Go.Proofs.YtpkolfmdockdnaaFmt
