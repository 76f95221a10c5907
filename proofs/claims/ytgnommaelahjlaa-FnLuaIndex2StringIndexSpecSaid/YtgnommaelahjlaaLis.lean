/- The walk of FnLuaIndex2StringIndexSpec: the Go text returns true and writes nothing that was there. -/
import Derived.Test.YtgnommaelahjlaaLidx
namespace Go.Proofs.Ytgnommaelahjlaa.fnLuaIndex2StringIndexSpec
open Go.ChangeShapes Go.WideShapes Go.ChangeAt Go.RowKit
set_option linter.unusedVariables false

theorem walk (a0 : ByteArray) (a1 : Int) (a2 : Bool) (w : World) (w0 : a0.size ≤ maxLen) (w1 : (Lit.int .i64 a1).wf = true) :
    Calls Try.prog 6 #[.string a0, .int .i64 a1, .bool a2] w fun e w' => e = .returned (.bool true) ∧ Below w.heap.size w w' := by
  unfold maxLen at w0
  have hb : -9223372036854775808 ≤ a1 ∧ a1 ≤ 9223372036854775807 := by simpa [Lit.wf, IntKind.min, IntKind.max, IntKind.signed, IntKind.bits] using w1
  obtain ⟨hb0, hb1⟩ := hb
  clear w1
  by_cases hbig : (1048576 : Int) < (a0.size : Int)
  · go_enter Try.func6, Try.ntmps6
    go_wp2
    go_ret
    exact ⟨rfl, Below.refl _ _⟩
  have hs : a0.size ≤ 1048576 := by omega
  by_cases hm : a1 = -9223372036854775808
  · have hm' : (a1 == -9223372036854775808) = true := by simpa using hm
    clear hm
    go_enter Try.func6, Try.ntmps6
    go_wp2
    go_ret
    exact ⟨rfl, Below.refl _ _⟩
  have hm' : (a1 == -9223372036854775808) = false := by simpa using hm
  have hlt : -9223372036854775808 < a1 := by omega
  clear hm
  cases a2
  · by_cases hn : a1 < 0
    · by_cases hp : (a0.size : Int) + a1 + 1 < 0
      · have e : lxE a0.size a1 = 0 := by unfold lxE; rw [if_pos hn, if_pos hp]
        have L := lidxE_any a0 a1
        rw [e] at L
        have HL := Lib.hid L
        clear e L
        go_enter Try.func6, Try.ntmps6
        go_wp2_with (first | (go_at_call 18; refine (HL.out _ hs hlt hb1).mono ?_; rintro e w1 ⟨rfl, rfl⟩) | (go_at_call 19; go_in))
        go_ret
        exact ⟨rfl, Below.refl _ _⟩
      · have e : lxE a0.size a1 = (a0.size : Int) + a1 + 1 := by unfold lxE; rw [if_pos hn, if_neg hp]
        have L := lidxE_any a0 a1
        rw [e] at L
        have HL := Lib.hid L
        clear e L
        go_enter Try.func6, Try.ntmps6
        go_wp2_with (first | (go_at_call 18; refine (HL.out _ hs hlt hb1).mono ?_; rintro e w1 ⟨rfl, rfl⟩) | (go_at_call 19; go_in))
        all_goals go_ret
        all_goals exact ⟨by simp, Below.refl _ _⟩
    · by_cases hp : (a0.size : Int) < a1
      · have e : lxE a0.size a1 = (a0.size : Int) := by unfold lxE; rw [if_neg hn, if_pos hp]
        have L := lidxE_any a0 a1
        rw [e] at L
        have HL := Lib.hid L
        clear e L
        go_enter Try.func6, Try.ntmps6
        go_wp2_with (first | (go_at_call 18; refine (HL.out _ hs hlt hb1).mono ?_; rintro e w1 ⟨rfl, rfl⟩) | (go_at_call 19; go_in))
        all_goals go_ret
        all_goals exact ⟨by simp, Below.refl _ _⟩
      · have e : lxE a0.size a1 = a1 := by unfold lxE; rw [if_neg hn, if_neg hp]
        have L := lidxE_any a0 a1
        rw [e] at L
        have HL := Lib.hid L
        clear e L
        go_enter Try.func6, Try.ntmps6
        go_wp2_with (first | (go_at_call 18; refine (HL.out _ hs hlt hb1).mono ?_; rintro e w1 ⟨rfl, rfl⟩) | (go_at_call 19; go_in))
        all_goals go_ret
        all_goals exact ⟨by simp, Below.refl _ _⟩
  · by_cases hn : a1 < 0
    · by_cases hp : (a0.size : Int) + a1 < 0
      · have e : lxS a0.size a1 = 0 := by unfold lxS; rw [if_pos hn, if_pos hp]
        have L := lidxS_any a0 a1
        rw [e] at L
        have HL := Lib.hid L
        clear e L
        go_enter Try.func6, Try.ntmps6
        go_wp2_with (first | (go_at_call 18; refine (HL.out _ hs hlt hb1).mono ?_; rintro e w1 ⟨rfl, rfl⟩) | (go_at_call 19; go_in))
        all_goals go_ret
        all_goals exact ⟨by simp, Below.refl _ _⟩
      · have e : lxS a0.size a1 = (a0.size : Int) + a1 := by unfold lxS; rw [if_pos hn, if_neg hp]
        have L := lidxS_any a0 a1
        rw [e] at L
        have HL := Lib.hid L
        clear e L
        have h5 : ((a0.size : Int) + a1 == (a0.size : Int) + a1 + 1 - 1) = true := by simp
        go_enter Try.func6, Try.ntmps6
        go_wp2_with (first | (go_at_call 18; refine (HL.out _ hs hlt hb1).mono ?_; rintro e w1 ⟨rfl, rfl⟩) | (go_at_call 19; go_in))
        all_goals go_ret
        all_goals exact ⟨by simp, Below.refl _ _⟩
    · by_cases hp : a1 = 0
      · subst hp
        have e : lxS a0.size 0 = 0 := by simp [lxS]
        have L := lidxS_any a0 0
        rw [e] at L
        have HL := Lib.hid L
        clear e L
        go_enter Try.func6, Try.ntmps6
        go_wp2_with (first | (go_at_call 18; refine (HL.out _ hs hlt hb1).mono ?_; rintro e w1 ⟨rfl, rfl⟩) | (go_at_call 19; go_in))
        all_goals go_ret
        all_goals exact ⟨by simp, Below.refl _ _⟩
      · have e : lxS a0.size a1 = a1 - 1 := by unfold lxS; rw [if_neg hn, if_neg hp]
        have L := lidxS_any a0 a1
        rw [e] at L
        have HL := Lib.hid L
        have hp' : 1 ≤ a1 := by omega
        clear e L hp
        go_enter Try.func6, Try.ntmps6
        go_wp2_with (first | (go_at_call 18; refine (HL.out _ hs hlt hb1).mono ?_; rintro e w1 ⟨rfl, rfl⟩) | (go_at_call 19; go_in))
        all_goals go_ret
        all_goals exact ⟨by simp, Below.refl _ _⟩
end Go.Proofs.Ytgnommaelahjlaa.fnLuaIndex2StringIndexSpec
