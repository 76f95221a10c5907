/- The walk of FnChannelTypeNamesChannel. -/
import Derived.Test.YtgnommaelahjlaaDoorBase
import Derived.Conc.SmallLaws
namespace Go.Proofs.YtgnommaelahjlaaDoor.fnChannelTypeNamesChannel
open Go.ChangeShapes Go.WideShapes Go.ChangeAt Go.RowKit
set_option linter.unusedVariables false

theorem type_any (v : Value) (w : World) : Calls Tryd.prog 4 #[v] w fun e w' => e = .returned (.int .i64 8) ∧ w = w' := by
  go_enter Tryd.func4, Tryd.ntmps4
  go_wp2
  go_ret
  exact ⟨rfl, rfl⟩

theorem infoLV : (Tryd.prog.info? 45).map (fun i => i.bytes) = some 16 := by kernel_rfl
theorem mkc (n : Nat) (hn : n ≤ 65536) (w : World) : (Instr.makeChan 23 (.int .i64 (n : Int))).run Tryd.prog w = .ok (.chan (some w.heap.size)) (w.alloc (.chan n #[] false 0 0 false)) := by
  obtain ⟨i, hi, hb⟩ := Option.map_eq_some_iff.1 infoLV
  exact Conc.run_makeChan Tryd.underlying23 hi .i64 n (by omega) (by rw [hb]; omega)

set_option maxHeartbeats 1000000 in
theorem walk (a0 a1 : Int) (w : World) (hc : w.cell? ⟨0, 8, none⟩ = some (.string ⟨#[99, 104, 97, 110, 110, 101, 108]⟩)) :
    Calls Tryd.prog 3 #[.int .i64 a0, .int .i64 a1] w fun e w' => e = .returned (.bool true) ∧ Below w.heap.size w w' := by
  by_cases g0 : (65536 : Int) < a0
  · go_enter Tryd.func3, Tryd.ntmps3
    go_wp2
    go_ret
    exact ⟨rfl, Below.refl _ _⟩
  by_cases g1 : (65536 : Int) < a1
  · go_enter Tryd.func3, Tryd.ntmps3
    go_wp2
    go_ret
    exact ⟨rfl, Below.refl _ _⟩
  have hl : 0 < w.heap.size := cell_block_lt hc
  have hl1 : 0 < w.heap.size + 1 := by omega
  by_cases p0 : 0 ≤ a0
  · obtain ⟨n0, rfl⟩ := Int.eq_ofNat_of_zero_le p0
    have m0 := mkc n0 (by omega)
    have d0 : decide ((65536 : Int) < (n0 : Int)) = false := by simpa using g0
    by_cases p1 : 0 ≤ a1
    · obtain ⟨n1, rfl⟩ := Int.eq_ofNat_of_zero_le p1
      have m1 := mkc n1 (by omega)
      have d1 : decide ((65536 : Int) < (n1 : Int)) = false := by simpa using g1
      go_enter Tryd.func3, Tryd.ntmps3
      go_wp2
      go_ret
      exact ⟨rfl, ((Below.refl w.heap.size w).alloc (Nat.le_refl _) _).alloc (by simp) _⟩
    · have d1 : decide ((65536 : Int) < a1) = false := by simpa using g1
      have q1 : decide (0 ≤ a1) = false := by simpa using p1
      go_enter Tryd.func3, Tryd.ntmps3
      go_wp2
      go_ret
      exact ⟨rfl, (Below.refl w.heap.size w).alloc (Nat.le_refl _) _⟩
  · have d0 : decide ((65536 : Int) < a0) = false := by simpa using g0
    have q0 : decide (0 ≤ a0) = false := by simpa using p0
    by_cases p1 : 0 ≤ a1
    · obtain ⟨n1, rfl⟩ := Int.eq_ofNat_of_zero_le p1
      have m1 := mkc n1 (by omega)
      have d1 : decide ((65536 : Int) < (n1 : Int)) = false := by simpa using g1
      go_enter Tryd.func3, Tryd.ntmps3
      go_wp2
      go_ret
      exact ⟨rfl, (Below.refl w.heap.size w).alloc (Nat.le_refl _) _⟩
    · have d1 : decide ((65536 : Int) < a1) = false := by simpa using g1
      have q1 : decide (0 ≤ a1) = false := by simpa using p1
      go_enter Tryd.func3, Tryd.ntmps3
      go_wp2
      go_ret
      exact ⟨rfl, Below.refl _ _⟩
end Go.Proofs.YtgnommaelahjlaaDoor.fnChannelTypeNamesChannel
