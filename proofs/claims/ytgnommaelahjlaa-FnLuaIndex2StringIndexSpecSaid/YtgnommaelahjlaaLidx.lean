/- The contract of luaIndex2StringIndex: what it computes, as plain integers. -/
import Derived.Test.YtgnommaelahjlaaBase
namespace Go.Proofs.Ytgnommaelahjlaa
open Go.ChangeShapes Go.WideShapes Go.ChangeAt Go.RowKit
set_option linter.unusedVariables false

theorem ret_int {k : IntKind} {a b : Int} (h : a = b) : Ending.returned (.int k a) = .returned (.int k b) := by rw [h]

/-- The start offset, the end offset. -/
def lxS (l i : Int) : Int := if i < 0 then (if l + i < 0 then 0 else l + i) else if i = 0 then 0 else i - 1
def lxE (l i : Int) : Int := if i < 0 then (if l + i + 1 < 0 then 0 else l + i + 1) else if l < i then l else i

theorem lidxS_any (s : ByteArray) (i : Int) (w : World) (hs : s.size ≤ 1048576) (h0 : -9223372036854775808 < i) (h1 : i ≤ 9223372036854775807) :
    Calls Try.prog 18 #[.string s, .int .i64 i, .bool true] w fun e w' => e = .returned (.int .i64 (lxS s.size i)) ∧ w = w' := by
  unfold lxS
  by_cases hn : i < 0
  · by_cases hx : (s.size : Int) + i < 0
    · rw [if_pos hn, if_pos hx]
      have hz : (i == 0) = false := by simp; omega
      have hz' : (i != 0) = true := by simp; omega
      go_enter Try.func18, Try.ntmps18
      go_wp2
      go_ret
      exact ⟨rfl, rfl⟩
    · rw [if_pos hn, if_neg hx]
      have hz : (i == 0) = false := by simp; omega
      have hz' : (i != 0) = true := by simp; omega
      go_enter Try.func18, Try.ntmps18
      go_wp2
      all_goals go_ret
      all_goals exact ⟨ret_int (by omega), rfl⟩
  · rw [if_neg hn]
    by_cases hx : i = 0
    · subst hx
      rw [if_pos rfl]
      go_enter Try.func18, Try.ntmps18
      go_wp2
      all_goals go_ret
      all_goals exact ⟨rfl, rfl⟩
    · rw [if_neg hx]
      have hz : (i == 0) = false := by simp; omega
      have hz' : (i != 0) = true := by simp; omega
      have hp : 1 ≤ i := by omega
      clear hx
      go_enter Try.func18, Try.ntmps18
      go_wp2
      all_goals go_ret
      all_goals exact ⟨ret_int (by omega), rfl⟩

theorem lidxE_any (s : ByteArray) (i : Int) (w : World) (hs : s.size ≤ 1048576) (h0 : -9223372036854775808 < i) (h1 : i ≤ 9223372036854775807) :
    Calls Try.prog 18 #[.string s, .int .i64 i, .bool false] w fun e w' => e = .returned (.int .i64 (lxE s.size i)) ∧ w = w' := by
  unfold lxE
  by_cases hn : i < 0
  · by_cases hx : (s.size : Int) + i + 1 < 0
    · rw [if_pos hn, if_pos hx]
      go_enter Try.func18, Try.ntmps18
      go_wp2
      all_goals go_ret
      all_goals exact ⟨ret_int (by omega), rfl⟩
    · rw [if_pos hn, if_neg hx]
      go_enter Try.func18, Try.ntmps18
      go_wp2
      all_goals go_ret
      all_goals exact ⟨ret_int (by omega), rfl⟩
  · rw [if_neg hn]
    by_cases hx : (s.size : Int) < i
    · rw [if_pos hx]
      go_enter Try.func18, Try.ntmps18
      go_wp2
      all_goals go_ret
      all_goals exact ⟨ret_int (by omega), rfl⟩
    · rw [if_neg hx]
      go_enter Try.func18, Try.ntmps18
      go_wp2
      all_goals go_ret
      all_goals exact ⟨ret_int (by omega), rfl⟩
end Go.Proofs.Ytgnommaelahjlaa
