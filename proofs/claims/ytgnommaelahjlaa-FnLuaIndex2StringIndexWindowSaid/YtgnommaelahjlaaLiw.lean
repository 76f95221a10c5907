/- The walk of FnLuaIndex2StringIndexWindow: the Go text returns true and writes nothing that was there. -/
import Derived.Test.YtgnommaelahjlaaLidx
namespace Go.Proofs.Ytgnommaelahjlaa.fnLuaIndex2StringIndexWindow
open Go.ChangeShapes Go.WideShapes Go.ChangeAt Go.RowKit
set_option linter.unusedVariables false

theorem neg_out (a0 : ByteArray) (a1 : Int) (w : World) (hs : a0.size ≤ 1048576) (hlt : -9223372036854775808 < a1) (hb1 : a1 ≤ 9223372036854775807) (h1 : a1 < 0) (h2 : (a0.size : Int) + a1 < 0) :
    Calls Try.prog 5 #[.string a0, .int .i64 a1] w fun e w' => e = .returned (.bool true) ∧ Below w.heap.size w w' := by
  have hm' : (a1 == -9223372036854775808) = false := by simp; omega
  have eS : lxS a0.size a1 = 0 := by unfold lxS; (repeat' split) <;> omega
  have eE : lxE a0.size a1 = 0 := by unfold lxE; (repeat' split) <;> omega
  have LS := lidxS_any a0 a1
  rw [eS] at LS
  have HS := Lib.hid LS
  have LE := lidxE_any a0 a1
  rw [eE] at LE
  have HE := Lib.hid LE
  clear eS eE LS LE
  go_enter Try.func5, Try.ntmps5
  go_wp2_with (first | (go_at_call 17; go_in) | (go_at_call 18; first | (with_reducible refine (HS.out _ hs hlt hb1).mono ?_; rintro e w1 ⟨rfl, rfl⟩) | (with_reducible refine (HE.out _ hs hlt hb1).mono ?_; rintro e w1 ⟨rfl, rfl⟩)))
  all_goals go_ret
  all_goals exact ⟨rfl, Below.refl _ _⟩

theorem neg_in (a0 : ByteArray) (a1 : Int) (w : World) (hs : a0.size ≤ 1048576) (hlt : -9223372036854775808 < a1) (hb1 : a1 ≤ 9223372036854775807) (h1 : a1 < 0) (h2 : 0 ≤ (a0.size : Int) + a1) :
    Calls Try.prog 5 #[.string a0, .int .i64 a1] w fun e w' => e = .returned (.bool true) ∧ Below w.heap.size w w' := by
  have hm' : (a1 == -9223372036854775808) = false := by simp; omega
  have eS : lxS a0.size a1 = (a0.size : Int) + a1 := by unfold lxS; (repeat' split) <;> omega
  have eE : lxE a0.size a1 = (a0.size : Int) + a1 + 1 := by unfold lxE; (repeat' split) <;> omega
  have LS := lidxS_any a0 a1
  rw [eS] at LS
  have HS := Lib.hid LS
  have LE := lidxE_any a0 a1
  rw [eE] at LE
  have HE := Lib.hid LE
  clear eS eE LS LE
  have h3 : (a1 == 0) = false := by simp; omega
  have h4 : (a1 != 0) = true := by simp; omega
  go_enter Try.func5, Try.ntmps5
  go_wp2_with (first | (go_at_call 17; go_in) | (go_at_call 18; first | (with_reducible refine (HS.out _ hs hlt hb1).mono ?_; rintro e w1 ⟨rfl, rfl⟩) | (with_reducible refine (HE.out _ hs hlt hb1).mono ?_; rintro e w1 ⟨rfl, rfl⟩)))
  all_goals go_ret
  all_goals exact ⟨rfl, Below.refl _ _⟩

theorem pos_in (a0 : ByteArray) (a1 : Int) (w : World) (hs : a0.size ≤ 1048576) (hlt : -9223372036854775808 < a1) (hb1 : a1 ≤ 9223372036854775807) (h1 : 0 < a1) (h2 : a1 ≤ (a0.size : Int)) :
    Calls Try.prog 5 #[.string a0, .int .i64 a1] w fun e w' => e = .returned (.bool true) ∧ Below w.heap.size w w' := by
  have hm' : (a1 == -9223372036854775808) = false := by simp; omega
  have eS : lxS a0.size a1 = a1 - 1 := by unfold lxS; (repeat' split) <;> omega
  have eE : lxE a0.size a1 = a1 := by unfold lxE; (repeat' split) <;> omega
  have LS := lidxS_any a0 a1
  rw [eS] at LS
  have HS := Lib.hid LS
  have LE := lidxE_any a0 a1
  rw [eE] at LE
  have HE := Lib.hid LE
  clear eS eE LS LE
  have h3 : (a1 == 0) = false := by simp; omega
  have h4 : (a1 != 0) = true := by simp; omega
  go_enter Try.func5, Try.ntmps5
  go_wp2_with (first | (go_at_call 17; go_in) | (go_at_call 18; first | (with_reducible refine (HS.out _ hs hlt hb1).mono ?_; rintro e w1 ⟨rfl, rfl⟩) | (with_reducible refine (HE.out _ hs hlt hb1).mono ?_; rintro e w1 ⟨rfl, rfl⟩)))
  all_goals go_ret
  all_goals exact ⟨rfl, Below.refl _ _⟩

theorem pos_out (a0 : ByteArray) (a1 : Int) (w : World) (hs : a0.size ≤ 1048576) (hlt : -9223372036854775808 < a1) (hb1 : a1 ≤ 9223372036854775807) (h1 : 0 < a1) (h2 : (a0.size : Int) < a1) :
    Calls Try.prog 5 #[.string a0, .int .i64 a1] w fun e w' => e = .returned (.bool true) ∧ Below w.heap.size w w' := by
  have hm' : (a1 == -9223372036854775808) = false := by simp; omega
  have eS : lxS a0.size a1 = a1 - 1 := by unfold lxS; (repeat' split) <;> omega
  have eE : lxE a0.size a1 = (a0.size : Int) := by unfold lxE; (repeat' split) <;> omega
  have LS := lidxS_any a0 a1
  rw [eS] at LS
  have HS := Lib.hid LS
  have LE := lidxE_any a0 a1
  rw [eE] at LE
  have HE := Lib.hid LE
  clear eS eE LS LE
  go_enter Try.func5, Try.ntmps5
  go_wp2_with (first | (go_at_call 17; go_in) | (go_at_call 18; first | (with_reducible refine (HS.out _ hs hlt hb1).mono ?_; rintro e w1 ⟨rfl, rfl⟩) | (with_reducible refine (HE.out _ hs hlt hb1).mono ?_; rintro e w1 ⟨rfl, rfl⟩)))
  all_goals go_ret
  all_goals exact ⟨rfl, Below.refl _ _⟩

theorem zero (a0 : ByteArray) (w : World) (hs : a0.size ≤ 1048576) :
    Calls Try.prog 5 #[.string a0, .int .i64 0] w fun e w' => e = .returned (.bool true) ∧ Below w.heap.size w w' := by
  have eS : lxS a0.size 0 = 0 := by simp [lxS]
  have eE : lxE a0.size 0 = 0 := by unfold lxE; (repeat' split) <;> omega
  have LS := lidxS_any a0 0
  rw [eS] at LS
  have HS := Lib.hid LS
  have LE := lidxE_any a0 0
  rw [eE] at LE
  have HE := Lib.hid LE
  clear eS eE LS LE
  go_enter Try.func5, Try.ntmps5
  go_wp2_with (first | (go_at_call 17; go_in) | (go_at_call 18; first | (with_reducible refine (HS.out _ hs (by omega) (by omega)).mono ?_; rintro e w1 ⟨rfl, rfl⟩) | (with_reducible refine (HE.out _ hs (by omega) (by omega)).mono ?_; rintro e w1 ⟨rfl, rfl⟩)))
  all_goals go_ret
  all_goals exact ⟨rfl, Below.refl _ _⟩

theorem walk (a0 : ByteArray) (a1 : Int) (w : World) (w0 : a0.size ≤ maxLen) (w1 : (Lit.int .i64 a1).wf = true) :
    Calls Try.prog 5 #[.string a0, .int .i64 a1] w fun e w' => e = .returned (.bool true) ∧ Below w.heap.size w w' := by
  unfold maxLen at w0
  have hb : -9223372036854775808 ≤ a1 ∧ a1 ≤ 9223372036854775807 := by simpa [Lit.wf, IntKind.min, IntKind.max, IntKind.signed, IntKind.bits] using w1
  obtain ⟨hb0, hb1⟩ := hb
  clear w1
  by_cases hbig : (1048576 : Int) < (a0.size : Int)
  · go_enter Try.func5, Try.ntmps5
    go_wp2
    go_ret
    exact ⟨rfl, Below.refl _ _⟩
  have hs : a0.size ≤ 1048576 := by omega
  by_cases hm : a1 = -9223372036854775808
  · have hm' : (a1 == -9223372036854775808) = true := by simpa using hm
    clear hm
    go_enter Try.func5, Try.ntmps5
    go_wp2
    go_ret
    exact ⟨rfl, Below.refl _ _⟩
  rcases Int.lt_trichotomy a1 0 with h | h | h
  · by_cases h2 : (a0.size : Int) + a1 < 0
    · exact neg_out a0 a1 w hs (by omega) hb1 h h2
    · exact neg_in a0 a1 w hs (by omega) hb1 h (by omega)
  · subst h
    exact zero a0 w hs
  · by_cases h2 : (a0.size : Int) < a1
    · exact pos_out a0 a1 w hs (by omega) hb1 h h2
    · exact pos_in a0 a1 w hs (by omega) hb1 h (by omega)
end Go.Proofs.Ytgnommaelahjlaa.fnLuaIndex2StringIndexWindow
