/- opToString: nothing at an opcode beyond the last; else some text that is not empty. -/
import Derived.Test.YtbpkncpkgmehiaaFmtOg
import Derived.Deep.Cut
import Derived.Deep.CutRange
import Derived.Deep.CutBlock
import Derived.Deep.DeepCutAuto
import Derived.Deep.Light
namespace Go.Proofs.YtbpkncpkgmehiaaFmt
open Go.ChangeShapes Go.WideShapes Go.ChangeAt Go.RowKit
open Go.Extern.Stop Go.Stop Go.Extern Go.Kit
set_option linter.unusedVariables false

/-- The answer: a text that is empty just where the opcode is beyond the last; what lay in memory lies as it did. -/
def Told (i : Int) (w : World) (e : Ending) (w' : World) : Prop := ∃ s : ByteArray, e = .returned (.string s) ∧ (i < 2818572288 ↔ 1 ≤ s.size) ∧ s.size ≤ 2000 ∧ Below w.heap.size w w'

set_option maxRecDepth 100000 in
theorem tos_none (i : Int) (w : World) (h0 : 2818572288 ≤ i) (h1 : i ≤ 4294967295) : Calls Tryf.prog 5 #[.int .u32 i] w fun e w' => e = .returned (.string ByteArray.empty) ∧ w = w' := by
  have hgt : 41 < i / 67108864 := by omega
  go_enter Tryf.func5, Tryf.ntmps5
  go_wp2_with fail
  refine (op_any i _ (by omega) (by omega)).mono ?_
  rintro e w' ⟨rfl, rfl⟩
  go_wp2_with fail
  go_ret
  exact ⟨rfl, rfl⟩

theorem op_nat (i : Int) (o : Nat) (w : World) (h0 : 0 ≤ i) (h1 : i ≤ 4294967295) (ho : i / 67108864 = (o : Int)) : Calls Tryf.prog 6 #[.int .u32 i] w fun e w' => e = .returned (.int .i64 (o : Int)) ∧ w = w' := by
  rw [← ho]; exact op_any i w h0 h1

theorem fmt0 : FmtStop.printed? ⟨#[37, 115, 32, 32, 32, 32, 32, 32, 124, 32, 32, 37, 100, 44, 32, 37, 100, 44, 32, 37, 100]⟩ 4 = some [(0, 115, false), (1, 100, false), (2, 100, false), (3, 100, false)] := by kernel_rfl
theorem fmt1 : FmtStop.printed? ⟨#[37, 115, 32, 32, 32, 32, 32, 32, 124, 32, 32, 37, 100, 44, 32, 37, 100]⟩ 3 = some [(0, 115, false), (1, 100, false), (2, 100, false)] := by kernel_rfl
theorem fmt2 : FmtStop.printed? ⟨#[59, 32, 82, 40, 37, 118, 41, 32, 58, 61, 32, 82, 40, 37, 118, 41]⟩ 2 = some [(0, 118, false), (1, 118, false)] := by kernel_rfl
theorem fmt3 : FmtStop.printed? ⟨#[59, 32, 82, 40, 37, 118, 41, 32, 58, 61, 32, 82, 40, 37, 118, 41, 59, 32, 102, 111, 108, 108, 111, 119, 101, 100, 32, 98, 121, 32, 37, 118, 32, 77, 79, 86, 69, 32, 111, 112, 115]⟩ 3 = some [(0, 118, false), (1, 118, false), (2, 118, false)] := by kernel_rfl
theorem fmt4 : FmtStop.printed? ⟨#[59, 32, 82, 40, 37, 118, 41, 32, 58, 61, 32, 75, 115, 116, 40, 37, 118, 41]⟩ 2 = some [(0, 118, false), (1, 118, false)] := by kernel_rfl
theorem fmt5 : FmtStop.printed? ⟨#[59, 32, 82, 40, 37, 118, 41, 32, 58, 61, 32, 40, 66, 111, 111, 108, 41, 37, 118, 59, 32, 105, 102, 32, 40, 37, 118, 41, 32, 112, 99, 43, 43]⟩ 3 = some [(0, 118, false), (1, 118, false), (2, 118, false)] := by kernel_rfl
theorem fmt6 : FmtStop.printed? ⟨#[59, 32, 82, 40, 37, 118, 41, 32, 58, 61, 32, 46, 46, 46, 32, 58, 61, 32, 82, 40, 37, 118, 41, 32, 58, 61, 32, 110, 105, 108]⟩ 2 = some [(0, 118, false), (1, 118, false)] := by kernel_rfl
theorem fmt7 : FmtStop.printed? ⟨#[59, 32, 82, 40, 37, 118, 41, 32, 58, 61, 32, 85, 112, 86, 97, 108, 117, 101, 91, 37, 118, 93]⟩ 2 = some [(0, 118, false), (1, 118, false)] := by kernel_rfl
theorem fmt8 : FmtStop.printed? ⟨#[59, 32, 82, 40, 37, 118, 41, 32, 58, 61, 32, 71, 98, 108, 91, 75, 115, 116, 40, 37, 118, 41, 93]⟩ 2 = some [(0, 118, false), (1, 118, false)] := by kernel_rfl
theorem fmt9 : FmtStop.printed? ⟨#[59, 32, 82, 40, 37, 118, 41, 32, 58, 61, 32, 82, 40, 37, 118, 41, 91, 82, 75, 40, 37, 118, 41, 93]⟩ 3 = some [(0, 118, false), (1, 118, false), (2, 118, false)] := by kernel_rfl
theorem fmt10 : FmtStop.printed? ⟨#[59, 32, 82, 40, 37, 118, 41, 32, 58, 61, 32, 82, 40, 37, 118, 41, 91, 82, 75, 40, 37, 118, 41, 93, 32, 59, 32, 82, 75, 40, 37, 118, 41, 32, 105, 115, 32, 99, 111, 110, 115, 116, 97, 110, 116, 32, 115, 116, 114, 105, 110, 103]⟩ 4 = some [(0, 118, false), (1, 118, false), (2, 118, false), (3, 118, false)] := by kernel_rfl
theorem fmt11 : FmtStop.printed? ⟨#[59, 32, 71, 98, 108, 91, 75, 115, 116, 40, 37, 118, 41, 93, 32, 58, 61, 32, 82, 40, 37, 118, 41]⟩ 2 = some [(0, 118, false), (1, 118, false)] := by kernel_rfl
theorem fmt12 : FmtStop.printed? ⟨#[59, 32, 85, 112, 86, 97, 108, 117, 101, 91, 37, 118, 93, 32, 58, 61, 32, 82, 40, 37, 118, 41]⟩ 2 = some [(0, 118, false), (1, 118, false)] := by kernel_rfl
theorem fmt13 : FmtStop.printed? ⟨#[59, 32, 82, 40, 37, 118, 41, 91, 82, 75, 40, 37, 118, 41, 93, 32, 58, 61, 32, 82, 75, 40, 37, 118, 41]⟩ 3 = some [(0, 118, false), (1, 118, false), (2, 118, false)] := by kernel_rfl
theorem fmt14 : FmtStop.printed? ⟨#[59, 32, 82, 40, 37, 118, 41, 91, 82, 75, 40, 37, 118, 41, 93, 32, 58, 61, 32, 82, 75, 40, 37, 118, 41, 32, 59, 32, 82, 75, 40, 37, 118, 41, 32, 105, 115, 32, 99, 111, 110, 115, 116, 97, 110, 116, 32, 115, 116, 114, 105, 110, 103]⟩ 4 = some [(0, 118, false), (1, 118, false), (2, 118, false), (3, 118, false)] := by kernel_rfl
theorem fmt15 : FmtStop.printed? ⟨#[59, 32, 82, 40, 37, 118, 41, 32, 58, 61, 32, 123, 125, 32, 40, 115, 105, 122, 101, 32, 61, 32, 66, 67, 41]⟩ 1 = some [(0, 118, false)] := by kernel_rfl
theorem fmt16 : FmtStop.printed? ⟨#[59, 32, 82, 40, 37, 118, 43, 49, 41, 32, 58, 61, 32, 82, 40, 37, 118, 41, 59, 32, 82, 40, 37, 118, 41, 32, 58, 61, 32, 82, 40, 37, 118, 41, 91, 82, 75, 40, 37, 118, 41, 93]⟩ 5 = some [(0, 118, false), (1, 118, false), (2, 118, false), (3, 118, false), (4, 118, false)] := by kernel_rfl
theorem fmt17 : FmtStop.printed? ⟨#[59, 32, 82, 40, 37, 118, 41, 32, 58, 61, 32, 82, 75, 40, 37, 118, 41, 32, 43, 32, 82, 75, 40, 37, 118, 41]⟩ 3 = some [(0, 118, false), (1, 118, false), (2, 118, false)] := by kernel_rfl
theorem fmt18 : FmtStop.printed? ⟨#[59, 32, 82, 40, 37, 118, 41, 32, 58, 61, 32, 82, 75, 40, 37, 118, 41, 32, 45, 32, 82, 75, 40, 37, 118, 41]⟩ 3 = some [(0, 118, false), (1, 118, false), (2, 118, false)] := by kernel_rfl
theorem fmt19 : FmtStop.printed? ⟨#[59, 32, 82, 40, 37, 118, 41, 32, 58, 61, 32, 82, 75, 40, 37, 118, 41, 32, 42, 32, 82, 75, 40, 37, 118, 41]⟩ 3 = some [(0, 118, false), (1, 118, false), (2, 118, false)] := by kernel_rfl
theorem fmt20 : FmtStop.printed? ⟨#[59, 32, 82, 40, 37, 118, 41, 32, 58, 61, 32, 82, 75, 40, 37, 118, 41, 32, 47, 32, 82, 75, 40, 37, 118, 41]⟩ 3 = some [(0, 118, false), (1, 118, false), (2, 118, false)] := by kernel_rfl
theorem fmt21 : FmtStop.printed? ⟨#[59, 32, 82, 40, 37, 118, 41, 32, 58, 61, 32, 82, 75, 40, 37, 118, 41, 32, 37, 37, 32, 82, 75, 40, 37, 118, 41]⟩ 3 = some [(0, 118, false), (1, 118, false), (2, 118, false)] := by kernel_rfl
theorem fmt22 : FmtStop.printed? ⟨#[59, 32, 82, 40, 37, 118, 41, 32, 58, 61, 32, 82, 75, 40, 37, 118, 41, 32, 94, 32, 82, 75, 40, 37, 118, 41]⟩ 3 = some [(0, 118, false), (1, 118, false), (2, 118, false)] := by kernel_rfl
theorem fmt23 : FmtStop.printed? ⟨#[59, 32, 82, 40, 37, 118, 41, 32, 58, 61, 32, 45, 82, 40, 37, 118, 41]⟩ 2 = some [(0, 118, false), (1, 118, false)] := by kernel_rfl
theorem fmt24 : FmtStop.printed? ⟨#[59, 32, 82, 40, 37, 118, 41, 32, 58, 61, 32, 110, 111, 116, 32, 82, 40, 37, 118, 41]⟩ 2 = some [(0, 118, false), (1, 118, false)] := by kernel_rfl
theorem fmt25 : FmtStop.printed? ⟨#[59, 32, 82, 40, 37, 118, 41, 32, 58, 61, 32, 108, 101, 110, 103, 116, 104, 32, 111, 102, 32, 82, 40, 37, 118, 41]⟩ 2 = some [(0, 118, false), (1, 118, false)] := by kernel_rfl
theorem fmt26 : FmtStop.printed? ⟨#[59, 32, 82, 40, 37, 118, 41, 32, 58, 61, 32, 82, 40, 37, 118, 41, 46, 46, 32, 46, 46, 46, 32, 46, 46, 82, 40, 37, 118, 41]⟩ 3 = some [(0, 118, false), (1, 118, false), (2, 118, false)] := by kernel_rfl
theorem fmt27 : FmtStop.printed? ⟨#[59, 32, 112, 99, 43, 61, 37, 118]⟩ 1 = some [(0, 118, false)] := by kernel_rfl
theorem fmt28 : FmtStop.printed? ⟨#[59, 32, 105, 102, 32, 40, 40, 82, 75, 40, 37, 118, 41, 32, 61, 61, 32, 82, 75, 40, 37, 118, 41, 41, 32, 126, 61, 32, 37, 118, 41, 32, 116, 104, 101, 110, 32, 112, 99, 43, 43]⟩ 3 = some [(0, 118, false), (1, 118, false), (2, 118, false)] := by kernel_rfl
theorem fmt29 : FmtStop.printed? ⟨#[59, 32, 105, 102, 32, 40, 40, 82, 75, 40, 37, 118, 41, 32, 60, 32, 32, 82, 75, 40, 37, 118, 41, 41, 32, 126, 61, 32, 37, 118, 41, 32, 116, 104, 101, 110, 32, 112, 99, 43, 43]⟩ 3 = some [(0, 118, false), (1, 118, false), (2, 118, false)] := by kernel_rfl
theorem fmt30 : FmtStop.printed? ⟨#[59, 32, 105, 102, 32, 40, 40, 82, 75, 40, 37, 118, 41, 32, 60, 61, 32, 82, 75, 40, 37, 118, 41, 41, 32, 126, 61, 32, 37, 118, 41, 32, 116, 104, 101, 110, 32, 112, 99, 43, 43]⟩ 3 = some [(0, 118, false), (1, 118, false), (2, 118, false)] := by kernel_rfl
theorem fmt31 : FmtStop.printed? ⟨#[59, 32, 105, 102, 32, 110, 111, 116, 32, 40, 82, 40, 37, 118, 41, 32, 60, 61, 62, 32, 37, 118, 41, 32, 116, 104, 101, 110, 32, 112, 99, 43, 43]⟩ 2 = some [(0, 118, false), (1, 118, false)] := by kernel_rfl
theorem fmt32 : FmtStop.printed? ⟨#[59, 32, 105, 102, 32, 40, 82, 40, 37, 118, 41, 32, 60, 61, 62, 32, 37, 118, 41, 32, 116, 104, 101, 110, 32, 82, 40, 37, 118, 41, 32, 58, 61, 32, 82, 40, 37, 118, 41, 32, 101, 108, 115, 101, 32, 112, 99, 43, 43]⟩ 4 = some [(0, 118, false), (1, 118, false), (2, 118, false), (3, 118, false)] := by kernel_rfl
theorem fmt33 : FmtStop.printed? ⟨#[59, 32, 82, 40, 37, 118, 41, 32, 46, 46, 46, 32, 82, 40, 37, 118, 43, 37, 118, 45, 50, 41, 32, 58, 61, 32, 82, 40, 37, 118, 41, 40, 82, 40, 37, 118, 43, 49, 41, 32, 46, 46, 46, 32, 82, 40, 37, 118, 43, 37, 118, 45, 49, 41, 41]⟩ 7 = some [(0, 118, false), (1, 118, false), (2, 118, false), (3, 118, false), (4, 118, false), (5, 118, false), (6, 118, false)] := by kernel_rfl
theorem fmt34 : FmtStop.printed? ⟨#[59, 32, 114, 101, 116, 117, 114, 110, 32, 82, 40, 37, 118, 41, 40, 82, 40, 37, 118, 43, 49, 41, 32, 46, 46, 46, 32, 82, 40, 37, 118, 43, 37, 118, 45, 49, 41, 41]⟩ 4 = some [(0, 118, false), (1, 118, false), (2, 118, false), (3, 118, false)] := by kernel_rfl
theorem fmt35 : FmtStop.printed? ⟨#[59, 32, 114, 101, 116, 117, 114, 110, 32, 82, 40, 37, 118, 41, 32, 46, 46, 46, 32, 82, 40, 37, 118, 43, 37, 118, 45, 50, 41]⟩ 3 = some [(0, 118, false), (1, 118, false), (2, 118, false)] := by kernel_rfl
theorem fmt36 : FmtStop.printed? ⟨#[59, 32, 82, 40, 37, 118, 41, 43, 61, 82, 40, 37, 118, 43, 50, 41, 59, 32, 105, 102, 32, 82, 40, 37, 118, 41, 32, 60, 63, 61, 32, 82, 40, 37, 118, 43, 49, 41, 32, 116, 104, 101, 110, 32, 123, 32, 112, 99, 43, 61, 37, 118, 59, 32, 82, 40, 37, 118, 43, 51, 41, 61, 82, 40, 37, 118, 41, 32, 125]⟩ 7 = some [(0, 118, false), (1, 118, false), (2, 118, false), (3, 118, false), (4, 118, false), (5, 118, false), (6, 118, false)] := by kernel_rfl
theorem fmt37 : FmtStop.printed? ⟨#[59, 32, 82, 40, 37, 118, 41, 45, 61, 82, 40, 37, 118, 43, 50, 41, 59, 32, 112, 99, 43, 61, 37, 118]⟩ 3 = some [(0, 118, false), (1, 118, false), (2, 118, false)] := by kernel_rfl
theorem fmt38 : FmtStop.printed? ⟨#[59, 32, 82, 40, 37, 118, 43, 51, 41, 32, 46, 46, 46, 32, 82, 40, 37, 118, 43, 51, 43, 37, 118, 41, 32, 58, 61, 32, 82, 40, 37, 118, 41, 40, 82, 40, 37, 118, 43, 49, 41, 32, 82, 40, 37, 118, 43, 50, 41, 41, 59, 32, 105, 102, 32, 82, 40, 37, 118, 43, 51, 41, 32, 126, 61, 32, 110, 105, 108, 32, 116, 104, 101, 110, 32, 123, 32, 112, 99, 43, 43, 59, 32, 82, 40, 37, 118, 43, 50, 41, 61, 82, 40, 37, 118, 43, 51, 41, 59, 32, 125]⟩ 9 = some [(0, 118, false), (1, 118, false), (2, 118, false), (3, 118, false), (4, 118, false), (5, 118, false), (6, 118, false), (7, 118, false), (8, 118, false)] := by kernel_rfl
theorem fmt39 : FmtStop.printed? ⟨#[59, 32, 82, 40, 37, 118, 41, 91, 40, 37, 118, 45, 49, 41, 42, 70, 80, 70, 43, 105, 93, 32, 58, 61, 32, 82, 40, 37, 118, 43, 105, 41, 32, 49, 32, 60, 61, 32, 105, 32, 60, 61, 32, 37, 118]⟩ 4 = some [(0, 118, false), (1, 118, false), (2, 118, false), (3, 118, false)] := by kernel_rfl
theorem fmt40 : FmtStop.printed? ⟨#[59, 32, 99, 108, 111, 115, 101, 32, 97, 108, 108, 32, 118, 97, 114, 105, 97, 98, 108, 101, 115, 32, 105, 110, 32, 116, 104, 101, 32, 115, 116, 97, 99, 107, 32, 117, 112, 32, 116, 111, 32, 40, 62, 61, 41, 32, 82, 40, 37, 118, 41]⟩ 1 = some [(0, 118, false)] := by kernel_rfl
theorem fmt41 : FmtStop.printed? ⟨#[59, 32, 82, 40, 37, 118, 41, 32, 58, 61, 32, 99, 108, 111, 115, 117, 114, 101, 40, 75, 80, 82, 79, 84, 79, 91, 37, 118, 93, 32, 82, 40, 37, 118, 41, 32, 46, 46, 46, 32, 82, 40, 37, 118, 43, 110, 41, 41]⟩ 4 = some [(0, 118, false), (1, 118, false), (2, 118, false), (3, 118, false)] := by kernel_rfl
theorem fmt42 : FmtStop.printed? ⟨#[59, 32, 32, 82, 40, 37, 118, 41, 32, 82, 40, 37, 118, 43, 49, 41, 32, 46, 46, 46, 32, 82, 40, 37, 118, 43, 37, 118, 45, 49, 41, 32, 61, 32, 118, 97, 114, 97, 114, 103]⟩ 4 = some [(0, 118, false), (1, 118, false), (2, 118, false), (3, 118, false)] := by kernel_rfl
attribute [local go_sem] fmt0 fmt1 fmt2 fmt3 fmt4 fmt5 fmt6 fmt7 fmt8 fmt9 fmt10 fmt11 fmt12 fmt13 fmt14 fmt15 fmt16 fmt17 fmt18 fmt19 fmt20 fmt21 fmt22 fmt23 fmt24 fmt25 fmt26 fmt27 fmt28 fmt29 fmt30 fmt31 fmt32 fmt33 fmt34 fmt35 fmt36 fmt37 fmt38 fmt39 fmt40 fmt41 fmt42

attribute [local go_sem] callSpr guardF op_int_v op_int_d op_str_s
/-- The text that fmt.Sprintf gives at a reading is the one that the authors' function tells. -/
def Tells (G : Interp) : Prop := ∀ reading t, FmtText.text "fmt.Sprintf" reading = some t → t.length < 2 ^ 63 → FmtStop.textOf (G "fmt.Sprintf" reading 0) = ⟨t.toArray⟩
/-- Behind the first switch: buf is some text, not empty; memory below stands; the tape answers as it did. -/
def Mid (F : Interp) (w : World) (v : Value) (wx : World) : Prop := ∃ s : ByteArray, v = .string s ∧ 1 ≤ s.size ∧ s.size ≤ 500 ∧ Below w.heap.size w wx ∧ F.answers wx.tape
theorem mid_head {G : Interp} (hT : Tells G) {w : World} (hF : G.answers w.tape) (f : List UInt8) (nm : ByteArray) (xs : List Int) (n : Nat) (hl : xs.length = n) (hf : fitsHead f n = true) (h3 : n ≤ 3) (hn : nm.size ≤ 100) (hx : ∀ x ∈ xs, I64 x) (o : Obj) :
    Mid G w (.string (FmtStop.textOf (G "fmt.Sprintf" (f :: strShape :: FmtStop.pack nm.data.toList :: intOps xs) 0))) (w.alloc o).drew := by
  subst hl
  obtain ⟨t, ht, h1, h2⟩ := text_head (s := nm.data.toList) hf (by simpa using hn) hx
  rw [hT _ _ ht (by omega)]
  refine ⟨_, rfl, ?_, ?_, ((Below.refl _ w).alloc (Nat.le_refl _) _).drew, hF⟩
  · show 1 ≤ t.toArray.size
    simpa using h1
  · show t.toArray.size ≤ 500
    simp; omega
def AllI : List Int → Prop
  | [] => True
  | x :: xs => I64 x ∧ AllI xs
theorem AllI.mem : ∀ {xs : List Int}, AllI xs → ∀ x ∈ xs, I64 x
  | [], _, x, h => by cases h
  | y :: ys, ⟨h1, h2⟩, x, h => by
    rcases List.mem_cons.1 h with rfl | h
    · exact h1
    · exact AllI.mem h2 x h
theorem tail_text {G : Interp} (hT : Tells G) (f : List UInt8) (xs : List Int) (n : Nat) (hl : xs.length = n) (hf : fitsInts f n = true) (h9 : n ≤ 9) (hx : AllI xs) :
    (FmtStop.textOf (G "fmt.Sprintf" (f :: intOps xs) 0)).size ≤ 500 := by
  subst hl
  obtain ⟨t, ht, h1, h2⟩ := text_ints hf hx.mem
  rw [hT _ _ ht (by omega)]
  show t.toArray.size ≤ 500
  simp; omega
theorem no_over {G : Interp} (hT : Tells G) {s : ByteArray} (hs2 : s.size ≤ 500) (f : List UInt8) (xs : List Int) (n : Nat) (hl : xs.length = n) (hf : fitsInts f n = true) (h9 : n ≤ 9) (hx : AllI xs)
    (h : 9223372036854775807 < s.size + (FmtStop.textOf (G "fmt.Sprintf" (f :: intOps xs) 0)).size) : False := by
  have := tail_text hT f xs n hl hf h9 hx
  omega
theorem told_end {G : Interp} (hT : Tells G) {i : Int} {w wc : World} (hi : i < 2818572288) {s : ByteArray} (hs1 : 1 ≤ s.size) (hs2 : s.size ≤ 500) (hb : Below w.heap.size w wc) (f : List UInt8) (xs : List Int) (n : Nat) (hl : xs.length = n) (hf : fitsInts f n = true) (h9 : n ≤ 9) (hx : AllI xs) (o : Obj) :
    Told i w (.returned (.string (s ++ FmtStop.textOf (G "fmt.Sprintf" (f :: intOps xs) 0)))) (wc.alloc o).drew := by
  have h := tail_text hT f xs n hl hf h9 hx
  refine ⟨_, rfl, ⟨fun _ => ?_, fun _ => hi⟩, ?_, (hb.alloc hb.size _).drew⟩
  · rw [ByteArray.size_append]; omega
  · rw [ByteArray.size_append]; omega
theorem told_nop {i : Int} {w wc : World} (hi : i < 2818572288) {s : ByteArray} (hs1 : 1 ≤ s.size) (hs2 : s.size ≤ 500) (hb : Below w.heap.size w wc) : Told i w (.returned (.string s)) wc :=
  ⟨s, rfl, ⟨fun _ => hs1, fun _ => hi⟩, by omega, hb⟩

set_option maxHeartbeats 4000000 in
set_option maxRecDepth 100000 in
theorem tos_walk (G : Interp) (hT : Hid (Tells G)) (i : Int) (w : World) (hF : G.answers w.tape) (h0 : 0 ≤ i) (h1 : i < 2818572288) (b off : Nat) (o : Nat) (ho' : Hid (i / 67108864 = (o : Int))) (nm : ByteArray) (ty : Int) (hty : Hid (ty = 0 ∨ ty = 1 ∨ ty = 2)) (hv : w.cell? ⟨0, 0, none⟩ = some (.slice (some ⟨b, off, none⟩) 42 42))
   (ht : w.cell? ⟨b, off + o * 6 + 5, none⟩ = some (.int .i64 ty)) (hn : w.cell? ⟨b, off + o * 6, none⟩ = some (.string nm)) (hb0 : b < w.heap.size) (hnl : nm.size ≤ 100) :
  Calls Tryf.prog 5 #[.int .u32 i] w (Told i w) := by
  have hF' := answers_open hF
  have hlt : o < 42 := by have := ho'.out; omega
  have hgt : decide (41 < o) = false := by simp; omega
  go_enter Tryf.func5, Tryf.ntmps5
  go_wp2_with fail
  refine (op_nat i o _ (by omega) (by omega) ho'.out).mono ?_
  rintro e w' ⟨rfl, rfl⟩
  go_wp2_with fail
  refine (a_any i _).mono ?_
  rintro e w' ⟨xa, ha, rfl, rfl⟩
  go_wp2_with fail
  refine (b_any i _).mono ?_
  rintro e w' ⟨xb, hb, rfl, rfl⟩
  go_wp2_with fail
  refine (c_any i _).mono ?_
  rintro e w' ⟨xc, hc, rfl, rfl⟩
  go_wp2_with fail
  refine (bx_any i _).mono ?_
  rintro e w' ⟨xx, hx, rfl, rfl⟩
  go_wp2_with fail
  refine (sbx_any i _).mono ?_
  rintro e w' ⟨xs, hs, rfl, rfl⟩
  go_upto_block 0 with (fail)
  go_cut [10] from 32 to 72 (fun s10 wx => Mid G w s10 wx)
  case first =>
    rcases hty.out with rfl | rfl | rfl
    · go_wp2_with fail
      go_meet
      case rel =>
        go_light
        exact mid_head hT.out hF _ nm [xa, xb, xc] 3 rfl (by decide +kernel) (by decide) hnl (by simp; exact ⟨ha, hb, hc⟩) _
    · go_wp2_with fail
      go_meet
      case rel =>
        go_light
        exact mid_head hT.out hF _ nm [xa, xx] 2 rfl (by decide +kernel) (by decide) hnl (by simp; exact ⟨ha, hx⟩) _
    · go_wp2_with fail
      go_meet
      case rel =>
        go_light
        exact mid_head hT.out hF _ nm [xa, xs] 2 rfl (by decide +kernel) (by decide) hnl (by simp; exact ⟨ha, hs⟩) _
  case rest =>
    obtain ⟨s, rfl, hs1, hs2, hbel, hFc⟩ := hcut
    have hFc' := answers_open hFc
    have hsz : w.heap.size ≤ wc.heap.size := hbel.size
    go_wp2_with fail
    · exact (no_over hT.out hs2 [59, 32, 82, 40, 37, 118, 41, 32, 58, 61, 32, 82, 40, 37, 118, 41] [xa, xb] 2 rfl (by decide +kernel) (by decide) ⟨ha, hb, trivial⟩ (by assumption)).elim
    · go_ret
      exact told_end hT.out h1 hs1 hs2 hbel _ [xa, xb] 2 rfl (by decide +kernel) (by decide) ⟨ha, hb, trivial⟩ _
    · exact (no_over hT.out hs2 [59, 32, 82, 40, 37, 118, 41, 32, 58, 61, 32, 82, 40, 37, 118, 41, 59, 32, 102, 111, 108, 108, 111, 119, 101, 100, 32, 98, 121, 32, 37, 118, 32, 77, 79, 86, 69, 32, 111, 112, 115] [xa, xb, xc] 3 rfl (by decide +kernel) (by decide) ⟨ha, hb, hc, trivial⟩ (by assumption)).elim
    · go_ret
      exact told_end hT.out h1 hs1 hs2 hbel _ [xa, xb, xc] 3 rfl (by decide +kernel) (by decide) ⟨ha, hb, hc, trivial⟩ _
    · exact (no_over hT.out hs2 [59, 32, 82, 40, 37, 118, 41, 32, 58, 61, 32, 75, 115, 116, 40, 37, 118, 41] [xa, xx] 2 rfl (by decide +kernel) (by decide) ⟨ha, hx, trivial⟩ (by assumption)).elim
    · go_ret
      exact told_end hT.out h1 hs1 hs2 hbel _ [xa, xx] 2 rfl (by decide +kernel) (by decide) ⟨ha, hx, trivial⟩ _
    · exact (no_over hT.out hs2 [59, 32, 82, 40, 37, 118, 41, 32, 58, 61, 32, 40, 66, 111, 111, 108, 41, 37, 118, 59, 32, 105, 102, 32, 40, 37, 118, 41, 32, 112, 99, 43, 43] [xa, xb, xc] 3 rfl (by decide +kernel) (by decide) ⟨ha, hb, hc, trivial⟩ (by assumption)).elim
    · go_ret
      exact told_end hT.out h1 hs1 hs2 hbel _ [xa, xb, xc] 3 rfl (by decide +kernel) (by decide) ⟨ha, hb, hc, trivial⟩ _
    · exact (no_over hT.out hs2 [59, 32, 82, 40, 37, 118, 41, 32, 58, 61, 32, 46, 46, 46, 32, 58, 61, 32, 82, 40, 37, 118, 41, 32, 58, 61, 32, 110, 105, 108] [xa, xb] 2 rfl (by decide +kernel) (by decide) ⟨ha, hb, trivial⟩ (by assumption)).elim
    · go_ret
      exact told_end hT.out h1 hs1 hs2 hbel _ [xa, xb] 2 rfl (by decide +kernel) (by decide) ⟨ha, hb, trivial⟩ _
    · exact (no_over hT.out hs2 [59, 32, 82, 40, 37, 118, 41, 32, 58, 61, 32, 85, 112, 86, 97, 108, 117, 101, 91, 37, 118, 93] [xa, xb] 2 rfl (by decide +kernel) (by decide) ⟨ha, hb, trivial⟩ (by assumption)).elim
    · go_ret
      exact told_end hT.out h1 hs1 hs2 hbel _ [xa, xb] 2 rfl (by decide +kernel) (by decide) ⟨ha, hb, trivial⟩ _
    · exact (no_over hT.out hs2 [59, 32, 82, 40, 37, 118, 41, 32, 58, 61, 32, 71, 98, 108, 91, 75, 115, 116, 40, 37, 118, 41, 93] [xa, xx] 2 rfl (by decide +kernel) (by decide) ⟨ha, hx, trivial⟩ (by assumption)).elim
    · go_ret
      exact told_end hT.out h1 hs1 hs2 hbel _ [xa, xx] 2 rfl (by decide +kernel) (by decide) ⟨ha, hx, trivial⟩ _
    · exact (no_over hT.out hs2 [59, 32, 82, 40, 37, 118, 41, 32, 58, 61, 32, 82, 40, 37, 118, 41, 91, 82, 75, 40, 37, 118, 41, 93] [xa, xb, xc] 3 rfl (by decide +kernel) (by decide) ⟨ha, hb, hc, trivial⟩ (by assumption)).elim
    · go_ret
      exact told_end hT.out h1 hs1 hs2 hbel _ [xa, xb, xc] 3 rfl (by decide +kernel) (by decide) ⟨ha, hb, hc, trivial⟩ _
    · exact (no_over hT.out hs2 [59, 32, 82, 40, 37, 118, 41, 32, 58, 61, 32, 82, 40, 37, 118, 41, 91, 82, 75, 40, 37, 118, 41, 93, 32, 59, 32, 82, 75, 40, 37, 118, 41, 32, 105, 115, 32, 99, 111, 110, 115, 116, 97, 110, 116, 32, 115, 116, 114, 105, 110, 103] [xa, xb, xc, xc] 4 rfl (by decide +kernel) (by decide) ⟨ha, hb, hc, hc, trivial⟩ (by assumption)).elim
    · go_ret
      exact told_end hT.out h1 hs1 hs2 hbel _ [xa, xb, xc, xc] 4 rfl (by decide +kernel) (by decide) ⟨ha, hb, hc, hc, trivial⟩ _
    · exact (no_over hT.out hs2 [59, 32, 71, 98, 108, 91, 75, 115, 116, 40, 37, 118, 41, 93, 32, 58, 61, 32, 82, 40, 37, 118, 41] [xx, xa] 2 rfl (by decide +kernel) (by decide) ⟨hx, ha, trivial⟩ (by assumption)).elim
    · go_ret
      exact told_end hT.out h1 hs1 hs2 hbel _ [xx, xa] 2 rfl (by decide +kernel) (by decide) ⟨hx, ha, trivial⟩ _
    · exact (no_over hT.out hs2 [59, 32, 85, 112, 86, 97, 108, 117, 101, 91, 37, 118, 93, 32, 58, 61, 32, 82, 40, 37, 118, 41] [xb, xa] 2 rfl (by decide +kernel) (by decide) ⟨hb, ha, trivial⟩ (by assumption)).elim
    · go_ret
      exact told_end hT.out h1 hs1 hs2 hbel _ [xb, xa] 2 rfl (by decide +kernel) (by decide) ⟨hb, ha, trivial⟩ _
    · exact (no_over hT.out hs2 [59, 32, 82, 40, 37, 118, 41, 91, 82, 75, 40, 37, 118, 41, 93, 32, 58, 61, 32, 82, 75, 40, 37, 118, 41] [xa, xb, xc] 3 rfl (by decide +kernel) (by decide) ⟨ha, hb, hc, trivial⟩ (by assumption)).elim
    · go_ret
      exact told_end hT.out h1 hs1 hs2 hbel _ [xa, xb, xc] 3 rfl (by decide +kernel) (by decide) ⟨ha, hb, hc, trivial⟩ _
    · exact (no_over hT.out hs2 [59, 32, 82, 40, 37, 118, 41, 91, 82, 75, 40, 37, 118, 41, 93, 32, 58, 61, 32, 82, 75, 40, 37, 118, 41, 32, 59, 32, 82, 75, 40, 37, 118, 41, 32, 105, 115, 32, 99, 111, 110, 115, 116, 97, 110, 116, 32, 115, 116, 114, 105, 110, 103] [xa, xb, xc, xb] 4 rfl (by decide +kernel) (by decide) ⟨ha, hb, hc, hb, trivial⟩ (by assumption)).elim
    · go_ret
      exact told_end hT.out h1 hs1 hs2 hbel _ [xa, xb, xc, xb] 4 rfl (by decide +kernel) (by decide) ⟨ha, hb, hc, hb, trivial⟩ _
    · exact (no_over hT.out hs2 [59, 32, 82, 40, 37, 118, 41, 32, 58, 61, 32, 123, 125, 32, 40, 115, 105, 122, 101, 32, 61, 32, 66, 67, 41] [xa] 1 rfl (by decide +kernel) (by decide) ⟨ha, trivial⟩ (by assumption)).elim
    · go_ret
      exact told_end hT.out h1 hs1 hs2 hbel _ [xa] 1 rfl (by decide +kernel) (by decide) ⟨ha, trivial⟩ _
    · exact (no_over hT.out hs2 [59, 32, 82, 40, 37, 118, 43, 49, 41, 32, 58, 61, 32, 82, 40, 37, 118, 41, 59, 32, 82, 40, 37, 118, 41, 32, 58, 61, 32, 82, 40, 37, 118, 41, 91, 82, 75, 40, 37, 118, 41, 93] [xa, xb, xa, xb, xc] 5 rfl (by decide +kernel) (by decide) ⟨ha, hb, ha, hb, hc, trivial⟩ (by assumption)).elim
    · go_ret
      exact told_end hT.out h1 hs1 hs2 hbel _ [xa, xb, xa, xb, xc] 5 rfl (by decide +kernel) (by decide) ⟨ha, hb, ha, hb, hc, trivial⟩ _
    · exact (no_over hT.out hs2 [59, 32, 82, 40, 37, 118, 41, 32, 58, 61, 32, 82, 75, 40, 37, 118, 41, 32, 43, 32, 82, 75, 40, 37, 118, 41] [xa, xb, xc] 3 rfl (by decide +kernel) (by decide) ⟨ha, hb, hc, trivial⟩ (by assumption)).elim
    · go_ret
      exact told_end hT.out h1 hs1 hs2 hbel _ [xa, xb, xc] 3 rfl (by decide +kernel) (by decide) ⟨ha, hb, hc, trivial⟩ _
    · exact (no_over hT.out hs2 [59, 32, 82, 40, 37, 118, 41, 32, 58, 61, 32, 82, 75, 40, 37, 118, 41, 32, 45, 32, 82, 75, 40, 37, 118, 41] [xa, xb, xc] 3 rfl (by decide +kernel) (by decide) ⟨ha, hb, hc, trivial⟩ (by assumption)).elim
    · go_ret
      exact told_end hT.out h1 hs1 hs2 hbel _ [xa, xb, xc] 3 rfl (by decide +kernel) (by decide) ⟨ha, hb, hc, trivial⟩ _
    · exact (no_over hT.out hs2 [59, 32, 82, 40, 37, 118, 41, 32, 58, 61, 32, 82, 75, 40, 37, 118, 41, 32, 42, 32, 82, 75, 40, 37, 118, 41] [xa, xb, xc] 3 rfl (by decide +kernel) (by decide) ⟨ha, hb, hc, trivial⟩ (by assumption)).elim
    · go_ret
      exact told_end hT.out h1 hs1 hs2 hbel _ [xa, xb, xc] 3 rfl (by decide +kernel) (by decide) ⟨ha, hb, hc, trivial⟩ _
    · exact (no_over hT.out hs2 [59, 32, 82, 40, 37, 118, 41, 32, 58, 61, 32, 82, 75, 40, 37, 118, 41, 32, 47, 32, 82, 75, 40, 37, 118, 41] [xa, xb, xc] 3 rfl (by decide +kernel) (by decide) ⟨ha, hb, hc, trivial⟩ (by assumption)).elim
    · go_ret
      exact told_end hT.out h1 hs1 hs2 hbel _ [xa, xb, xc] 3 rfl (by decide +kernel) (by decide) ⟨ha, hb, hc, trivial⟩ _
    · exact (no_over hT.out hs2 [59, 32, 82, 40, 37, 118, 41, 32, 58, 61, 32, 82, 75, 40, 37, 118, 41, 32, 37, 37, 32, 82, 75, 40, 37, 118, 41] [xa, xb, xc] 3 rfl (by decide +kernel) (by decide) ⟨ha, hb, hc, trivial⟩ (by assumption)).elim
    · go_ret
      exact told_end hT.out h1 hs1 hs2 hbel _ [xa, xb, xc] 3 rfl (by decide +kernel) (by decide) ⟨ha, hb, hc, trivial⟩ _
    · exact (no_over hT.out hs2 [59, 32, 82, 40, 37, 118, 41, 32, 58, 61, 32, 82, 75, 40, 37, 118, 41, 32, 94, 32, 82, 75, 40, 37, 118, 41] [xa, xb, xc] 3 rfl (by decide +kernel) (by decide) ⟨ha, hb, hc, trivial⟩ (by assumption)).elim
    · go_ret
      exact told_end hT.out h1 hs1 hs2 hbel _ [xa, xb, xc] 3 rfl (by decide +kernel) (by decide) ⟨ha, hb, hc, trivial⟩ _
    · exact (no_over hT.out hs2 [59, 32, 82, 40, 37, 118, 41, 32, 58, 61, 32, 45, 82, 40, 37, 118, 41] [xa, xb] 2 rfl (by decide +kernel) (by decide) ⟨ha, hb, trivial⟩ (by assumption)).elim
    · go_ret
      exact told_end hT.out h1 hs1 hs2 hbel _ [xa, xb] 2 rfl (by decide +kernel) (by decide) ⟨ha, hb, trivial⟩ _
    · exact (no_over hT.out hs2 [59, 32, 82, 40, 37, 118, 41, 32, 58, 61, 32, 110, 111, 116, 32, 82, 40, 37, 118, 41] [xa, xb] 2 rfl (by decide +kernel) (by decide) ⟨ha, hb, trivial⟩ (by assumption)).elim
    · go_ret
      exact told_end hT.out h1 hs1 hs2 hbel _ [xa, xb] 2 rfl (by decide +kernel) (by decide) ⟨ha, hb, trivial⟩ _
    · exact (no_over hT.out hs2 [59, 32, 82, 40, 37, 118, 41, 32, 58, 61, 32, 108, 101, 110, 103, 116, 104, 32, 111, 102, 32, 82, 40, 37, 118, 41] [xa, xb] 2 rfl (by decide +kernel) (by decide) ⟨ha, hb, trivial⟩ (by assumption)).elim
    · go_ret
      exact told_end hT.out h1 hs1 hs2 hbel _ [xa, xb] 2 rfl (by decide +kernel) (by decide) ⟨ha, hb, trivial⟩ _
    · exact (no_over hT.out hs2 [59, 32, 82, 40, 37, 118, 41, 32, 58, 61, 32, 82, 40, 37, 118, 41, 46, 46, 32, 46, 46, 46, 32, 46, 46, 82, 40, 37, 118, 41] [xa, xb, xc] 3 rfl (by decide +kernel) (by decide) ⟨ha, hb, hc, trivial⟩ (by assumption)).elim
    · go_ret
      exact told_end hT.out h1 hs1 hs2 hbel _ [xa, xb, xc] 3 rfl (by decide +kernel) (by decide) ⟨ha, hb, hc, trivial⟩ _
    · exact (no_over hT.out hs2 [59, 32, 112, 99, 43, 61, 37, 118] [xs] 1 rfl (by decide +kernel) (by decide) ⟨hs, trivial⟩ (by assumption)).elim
    · go_ret
      exact told_end hT.out h1 hs1 hs2 hbel _ [xs] 1 rfl (by decide +kernel) (by decide) ⟨hs, trivial⟩ _
    · exact (no_over hT.out hs2 [59, 32, 105, 102, 32, 40, 40, 82, 75, 40, 37, 118, 41, 32, 61, 61, 32, 82, 75, 40, 37, 118, 41, 41, 32, 126, 61, 32, 37, 118, 41, 32, 116, 104, 101, 110, 32, 112, 99, 43, 43] [xb, xc, xa] 3 rfl (by decide +kernel) (by decide) ⟨hb, hc, ha, trivial⟩ (by assumption)).elim
    · go_ret
      exact told_end hT.out h1 hs1 hs2 hbel _ [xb, xc, xa] 3 rfl (by decide +kernel) (by decide) ⟨hb, hc, ha, trivial⟩ _
    · exact (no_over hT.out hs2 [59, 32, 105, 102, 32, 40, 40, 82, 75, 40, 37, 118, 41, 32, 60, 32, 32, 82, 75, 40, 37, 118, 41, 41, 32, 126, 61, 32, 37, 118, 41, 32, 116, 104, 101, 110, 32, 112, 99, 43, 43] [xb, xc, xa] 3 rfl (by decide +kernel) (by decide) ⟨hb, hc, ha, trivial⟩ (by assumption)).elim
    · go_ret
      exact told_end hT.out h1 hs1 hs2 hbel _ [xb, xc, xa] 3 rfl (by decide +kernel) (by decide) ⟨hb, hc, ha, trivial⟩ _
    · exact (no_over hT.out hs2 [59, 32, 105, 102, 32, 40, 40, 82, 75, 40, 37, 118, 41, 32, 60, 61, 32, 82, 75, 40, 37, 118, 41, 41, 32, 126, 61, 32, 37, 118, 41, 32, 116, 104, 101, 110, 32, 112, 99, 43, 43] [xb, xc, xa] 3 rfl (by decide +kernel) (by decide) ⟨hb, hc, ha, trivial⟩ (by assumption)).elim
    · go_ret
      exact told_end hT.out h1 hs1 hs2 hbel _ [xb, xc, xa] 3 rfl (by decide +kernel) (by decide) ⟨hb, hc, ha, trivial⟩ _
    · exact (no_over hT.out hs2 [59, 32, 105, 102, 32, 110, 111, 116, 32, 40, 82, 40, 37, 118, 41, 32, 60, 61, 62, 32, 37, 118, 41, 32, 116, 104, 101, 110, 32, 112, 99, 43, 43] [xa, xc] 2 rfl (by decide +kernel) (by decide) ⟨ha, hc, trivial⟩ (by assumption)).elim
    · go_ret
      exact told_end hT.out h1 hs1 hs2 hbel _ [xa, xc] 2 rfl (by decide +kernel) (by decide) ⟨ha, hc, trivial⟩ _
    · exact (no_over hT.out hs2 [59, 32, 105, 102, 32, 40, 82, 40, 37, 118, 41, 32, 60, 61, 62, 32, 37, 118, 41, 32, 116, 104, 101, 110, 32, 82, 40, 37, 118, 41, 32, 58, 61, 32, 82, 40, 37, 118, 41, 32, 101, 108, 115, 101, 32, 112, 99, 43, 43] [xb, xc, xa, xb] 4 rfl (by decide +kernel) (by decide) ⟨hb, hc, ha, hb, trivial⟩ (by assumption)).elim
    · go_ret
      exact told_end hT.out h1 hs1 hs2 hbel _ [xb, xc, xa, xb] 4 rfl (by decide +kernel) (by decide) ⟨hb, hc, ha, hb, trivial⟩ _
    · exact (no_over hT.out hs2 [59, 32, 82, 40, 37, 118, 41, 32, 46, 46, 46, 32, 82, 40, 37, 118, 43, 37, 118, 45, 50, 41, 32, 58, 61, 32, 82, 40, 37, 118, 41, 40, 82, 40, 37, 118, 43, 49, 41, 32, 46, 46, 46, 32, 82, 40, 37, 118, 43, 37, 118, 45, 49, 41, 41] [xa, xa, xc, xa, xa, xa, xb] 7 rfl (by decide +kernel) (by decide) ⟨ha, ha, hc, ha, ha, ha, hb, trivial⟩ (by assumption)).elim
    · go_ret
      exact told_end hT.out h1 hs1 hs2 hbel _ [xa, xa, xc, xa, xa, xa, xb] 7 rfl (by decide +kernel) (by decide) ⟨ha, ha, hc, ha, ha, ha, hb, trivial⟩ _
    · exact (no_over hT.out hs2 [59, 32, 114, 101, 116, 117, 114, 110, 32, 82, 40, 37, 118, 41, 40, 82, 40, 37, 118, 43, 49, 41, 32, 46, 46, 46, 32, 82, 40, 37, 118, 43, 37, 118, 45, 49, 41, 41] [xa, xa, xa, xb] 4 rfl (by decide +kernel) (by decide) ⟨ha, ha, ha, hb, trivial⟩ (by assumption)).elim
    · go_ret
      exact told_end hT.out h1 hs1 hs2 hbel _ [xa, xa, xa, xb] 4 rfl (by decide +kernel) (by decide) ⟨ha, ha, ha, hb, trivial⟩ _
    · exact (no_over hT.out hs2 [59, 32, 114, 101, 116, 117, 114, 110, 32, 82, 40, 37, 118, 41, 32, 46, 46, 46, 32, 82, 40, 37, 118, 43, 37, 118, 45, 50, 41] [xa, xa, xb] 3 rfl (by decide +kernel) (by decide) ⟨ha, ha, hb, trivial⟩ (by assumption)).elim
    · go_ret
      exact told_end hT.out h1 hs1 hs2 hbel _ [xa, xa, xb] 3 rfl (by decide +kernel) (by decide) ⟨ha, ha, hb, trivial⟩ _
    · exact (no_over hT.out hs2 [59, 32, 82, 40, 37, 118, 41, 43, 61, 82, 40, 37, 118, 43, 50, 41, 59, 32, 105, 102, 32, 82, 40, 37, 118, 41, 32, 60, 63, 61, 32, 82, 40, 37, 118, 43, 49, 41, 32, 116, 104, 101, 110, 32, 123, 32, 112, 99, 43, 61, 37, 118, 59, 32, 82, 40, 37, 118, 43, 51, 41, 61, 82, 40, 37, 118, 41, 32, 125] [xa, xa, xa, xa, xs, xa, xa] 7 rfl (by decide +kernel) (by decide) ⟨ha, ha, ha, ha, hs, ha, ha, trivial⟩ (by assumption)).elim
    · go_ret
      exact told_end hT.out h1 hs1 hs2 hbel _ [xa, xa, xa, xa, xs, xa, xa] 7 rfl (by decide +kernel) (by decide) ⟨ha, ha, ha, ha, hs, ha, ha, trivial⟩ _
    · exact (no_over hT.out hs2 [59, 32, 82, 40, 37, 118, 41, 45, 61, 82, 40, 37, 118, 43, 50, 41, 59, 32, 112, 99, 43, 61, 37, 118] [xa, xa, xs] 3 rfl (by decide +kernel) (by decide) ⟨ha, ha, hs, trivial⟩ (by assumption)).elim
    · go_ret
      exact told_end hT.out h1 hs1 hs2 hbel _ [xa, xa, xs] 3 rfl (by decide +kernel) (by decide) ⟨ha, ha, hs, trivial⟩ _
    · exact (no_over hT.out hs2 [59, 32, 82, 40, 37, 118, 43, 51, 41, 32, 46, 46, 46, 32, 82, 40, 37, 118, 43, 51, 43, 37, 118, 41, 32, 58, 61, 32, 82, 40, 37, 118, 41, 40, 82, 40, 37, 118, 43, 49, 41, 32, 82, 40, 37, 118, 43, 50, 41, 41, 59, 32, 105, 102, 32, 82, 40, 37, 118, 43, 51, 41, 32, 126, 61, 32, 110, 105, 108, 32, 116, 104, 101, 110, 32, 123, 32, 112, 99, 43, 43, 59, 32, 82, 40, 37, 118, 43, 50, 41, 61, 82, 40, 37, 118, 43, 51, 41, 59, 32, 125] [xa, xa, xc, xa, xa, xa, xa, xa, xa] 9 rfl (by decide +kernel) (by decide) ⟨ha, ha, hc, ha, ha, ha, ha, ha, ha, trivial⟩ (by assumption)).elim
    · go_ret
      exact told_end hT.out h1 hs1 hs2 hbel _ [xa, xa, xc, xa, xa, xa, xa, xa, xa] 9 rfl (by decide +kernel) (by decide) ⟨ha, ha, hc, ha, ha, ha, ha, ha, ha, trivial⟩ _
    · exact (no_over hT.out hs2 [59, 32, 82, 40, 37, 118, 41, 91, 40, 37, 118, 45, 49, 41, 42, 70, 80, 70, 43, 105, 93, 32, 58, 61, 32, 82, 40, 37, 118, 43, 105, 41, 32, 49, 32, 60, 61, 32, 105, 32, 60, 61, 32, 37, 118] [xa, xc, xa, xb] 4 rfl (by decide +kernel) (by decide) ⟨ha, hc, ha, hb, trivial⟩ (by assumption)).elim
    · go_ret
      exact told_end hT.out h1 hs1 hs2 hbel _ [xa, xc, xa, xb] 4 rfl (by decide +kernel) (by decide) ⟨ha, hc, ha, hb, trivial⟩ _
    · exact (no_over hT.out hs2 [59, 32, 99, 108, 111, 115, 101, 32, 97, 108, 108, 32, 118, 97, 114, 105, 97, 98, 108, 101, 115, 32, 105, 110, 32, 116, 104, 101, 32, 115, 116, 97, 99, 107, 32, 117, 112, 32, 116, 111, 32, 40, 62, 61, 41, 32, 82, 40, 37, 118, 41] [xa] 1 rfl (by decide +kernel) (by decide) ⟨ha, trivial⟩ (by assumption)).elim
    · go_ret
      exact told_end hT.out h1 hs1 hs2 hbel _ [xa] 1 rfl (by decide +kernel) (by decide) ⟨ha, trivial⟩ _
    · exact (no_over hT.out hs2 [59, 32, 82, 40, 37, 118, 41, 32, 58, 61, 32, 99, 108, 111, 115, 117, 114, 101, 40, 75, 80, 82, 79, 84, 79, 91, 37, 118, 93, 32, 82, 40, 37, 118, 41, 32, 46, 46, 46, 32, 82, 40, 37, 118, 43, 110, 41, 41] [xa, xx, xa, xa] 4 rfl (by decide +kernel) (by decide) ⟨ha, hx, ha, ha, trivial⟩ (by assumption)).elim
    · go_ret
      exact told_end hT.out h1 hs1 hs2 hbel _ [xa, xx, xa, xa] 4 rfl (by decide +kernel) (by decide) ⟨ha, hx, ha, ha, trivial⟩ _
    · exact (no_over hT.out hs2 [59, 32, 32, 82, 40, 37, 118, 41, 32, 82, 40, 37, 118, 43, 49, 41, 32, 46, 46, 46, 32, 82, 40, 37, 118, 43, 37, 118, 45, 49, 41, 32, 61, 32, 118, 97, 114, 97, 114, 103] [xa, xa, xa, xb] 4 rfl (by decide +kernel) (by decide) ⟨ha, ha, ha, hb, trivial⟩ (by assumption)).elim
    · go_ret
      exact told_end hT.out h1 hs1 hs2 hbel _ [xa, xa, xa, xb] 4 rfl (by decide +kernel) (by decide) ⟨ha, ha, ha, hb, trivial⟩ _
    all_goals (go_ret; exact told_nop h1 hs1 hs2 hbel)
end Go.Proofs.YtbpkncpkgmehiaaFmt
