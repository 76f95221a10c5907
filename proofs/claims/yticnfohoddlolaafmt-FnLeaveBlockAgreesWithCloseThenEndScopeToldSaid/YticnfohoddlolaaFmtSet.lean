/- The contracts of the field setters of an instruction word. -/
import Derived.Test.YticnfohoddlolaaFmtBits
import Derived.Test.YticnfohoddlolaaFmtRows2
namespace Go.Proofs.YticnfohoddlolaaFmt
open Go.ChangeShapes Go.WideShapes Go.ChangeAt Go.RowKit
set_option linter.unusedVariables false

def setAv (x v : Int) : Int := x / 67108864 * 67108864 + v % 256 * 262144 + x % 262144
def setBv (x v : Int) : Int := x / 512 * 512 + v % 512
def setCv (x v : Int) : Int := x / 262144 * 262144 + v % 512 * 512 + x % 512
def setOpv (x v : Int) : Int := v % 64 * 67108864 + x % 67108864

theorem setAv_bd (x v : Int) (hx0 : 0 ≤ x) (hx : x < 4294967296) : 0 ≤ setAv x v ∧ setAv x v < 4294967296 := by unfold setAv; omega
theorem setBv_bd (x v : Int) (hx0 : 0 ≤ x) (hx : x < 4294967296) : 0 ≤ setBv x v ∧ setBv x v < 4294967296 := by unfold setBv; omega
theorem setCv_bd (x v : Int) (hx0 : 0 ≤ x) (hx : x < 4294967296) : 0 ≤ setCv x v ∧ setCv x v < 4294967296 := by unfold setCv; omega
theorem setOpv_bd (x v : Int) (hx0 : 0 ≤ x) (hx : x < 4294967296) : 0 ≤ setOpv x v ∧ setOpv x v < 4294967296 := by unfold setOpv; omega
theorem u32_bd {x : Int} (h : (Lit.int .u32 x).wf = true) : 0 ≤ x ∧ x < 4294967296 := by
  have h2 : 0 ≤ x ∧ x ≤ 4294967295 := by simpa [Lit.wf, IntKind.min, IntKind.max, IntKind.signed, IntKind.bits] using h
  omega
theorem getD_u32 {zs : List Int} (h : ∀ z ∈ zs, (Lit.int .u32 z).wf = true) (i : Nat) : 0 ≤ zs.getD i 0 ∧ zs.getD i 0 < 4294967296 := by
  by_cases hi : i < zs.length
  · have e : zs.getD i 0 = zs[i] := by simp [List.getD, hi]
    rw [e]
    exact u32_bd (h _ (List.getElem_mem hi))
  · have e : zs.getD i 0 = 0 := by simp [List.getD, List.getElem?_eq_none (Nat.le_of_not_lt hi)]
    rw [e]
    omega
/-- Every number of the list is a word. -/
def U32s (zs : List Int) : Prop := ∀ i, 0 ≤ zs.getD i 0 ∧ zs.getD i 0 < 4294967296
theorem u32s_of {zs : List Int} (h : ∀ z ∈ zs, (Lit.int .u32 z).wf = true) : U32s zs := fun i => getD_u32 h i
theorem U32s.set {zs : List Int} (h : U32s zs) (p : Nat) {y : Int} (hy : 0 ≤ y ∧ y < 4294967296) : U32s (zs.set p y) := by
  intro i
  by_cases hi : i < zs.length
  · by_cases e : p = i
    · subst e
      have : (zs.set p y).getD p 0 = y := by simp [List.getD, hi]
      rw [this]
      exact hy
    · have : (zs.set p y).getD i 0 = zs.getD i 0 := by simp [List.getD, List.getElem?_set_ne e]
      rw [this]
      exact h i
  · have : (zs.set p y).getD i 0 = 0 := by simp [List.getD, List.getElem?_eq_none (show (zs.set p y).length ≤ i by rw [List.length_set]; omega)]
    rw [this]
    omega
theorem getD_set_self {zs : List Int} {p n : Nat} (y : Int) (hz : zs.length = n) (hp : p < n) : (zs.set p y).getD p 0 = y := by
  simp [List.getD, hz, hp]
theorem getD_set_other {zs : List Int} {p i : Nat} (y : Int) (h : p ≠ i) : (zs.set p y).getD i 0 = zs.getD i 0 := by
  simp [List.getD, List.getElem?_set_ne h]
theorem setOp_setOp (x v1 v2 : Int) (hx0 : 0 ≤ x) (hx : x < 4294967296) : setOpv (setOpv x v1) v2 = setOpv x v2 := by unfold setOpv; omega
theorem setOp_setA (x op v : Int) (hx0 : 0 ≤ x) (hx : x < 4294967296) : setAv (setOpv x op) v = setOpv (setAv x v) op := by unfold setOpv setAv; omega
theorem setB_setB (x v1 v2 : Int) (hx0 : 0 ≤ x) (hx : x < 4294967296) : setBv (setBv x v1) v2 = setBv x v2 := by unfold setBv; omega
theorem setOpv_O (x v : Int) (hx0 : 0 ≤ x) (hx : x < 4294967296) : (setOpv x v / 67108864 != v % 64) = false := by
  have : setOpv x v / 67108864 = v % 64 := by unfold setOpv; omega
  simp [this]
theorem setOpv_L (x v : Int) (hx0 : 0 ≤ x) (hx : x < 4294967296) : (setOpv x v % 67108864 == x % 67108864) = true := by
  have : setOpv x v % 67108864 = x % 67108864 := by unfold setOpv; omega
  simp [this]
theorem setAv_A (x v : Int) (hx0 : 0 ≤ x) (hx : x < 4294967296) : (setAv x v / 262144 % 256 != v % 256) = false := by
  have : setAv x v / 262144 % 256 = v % 256 := by unfold setAv; omega
  simp [this]
theorem setAv_O (x v : Int) (hx0 : 0 ≤ x) (hx : x < 4294967296) : (setAv x v / 67108864 != x / 67108864) = false := by
  have : setAv x v / 67108864 = x / 67108864 := by unfold setAv; omega
  simp [this]
theorem setAv_L (x v : Int) (hx0 : 0 ≤ x) (hx : x < 4294967296) : (setAv x v % 262144 == x % 262144) = true := by
  have : setAv x v % 262144 = x % 262144 := by unfold setAv; omega
  simp [this]
theorem valA (x v : Int) (hx0 : 0 ≤ x) (hx : x < 4294967296) : bits .or .u32 (bits .and .u32 x 4228120575) (wrap64 (bits .and .i64 v 255 * 262144) % 4294967296) = setAv x v := by
  rw [i64_and255, show wrap64 (v % 256 * 262144) % 4294967296 = v % 256 * 262144 from by unfold wrap64; omega]
  exact putA x (v % 256) hx0 hx (by omega) (by omega)
theorem valB (x v : Int) (hx0 : 0 ≤ x) (hx : x < 4294967296) : bits .or .u32 (bits .and .u32 x 4294966784) (bits .and .i64 v 511 % 4294967296) = setBv x v := by
  rw [i64_and511, show v % 512 % 4294967296 = v % 512 from by omega]
  exact putB x (v % 512) hx0 hx (by omega) (by omega)
theorem valC (x v : Int) (hx0 : 0 ≤ x) (hx : x < 4294967296) : bits .or .u32 (bits .and .u32 x 4294705663) (wrap64 (bits .and .i64 v 511 * 512) % 4294967296) = setCv x v := by
  rw [i64_and511, show wrap64 (v % 512 * 512) % 4294967296 = v % 512 * 512 from by unfold wrap64; omega]
  exact putC x (v % 512) hx0 hx (by omega) (by omega)
theorem valOp (x v : Int) (hx0 : 0 ≤ x) (hx : x < 4294967296) : bits .or .u32 (bits .and .u32 x 67108863) (wrap64 (v * 67108864) % 4294967296) = setOpv x v := by
  rw [show wrap64 (v * 67108864) % 4294967296 = v % 64 * 67108864 from by unfold wrap64; omega]
  exact putOp x (v % 64) hx0 hx (by omega) (by omega)

/-- A setter's own end: the word at b, off becomes y. -/
def Stored (b off : Nat) (y : Int) (w : World) (e : Ending) (w' : World) : Prop := e = .returned (.tuple #[]) ∧ w.setCell ⟨b, off, none⟩ (.int .u32 y) = w'

theorem setA_any (b off : Nat) (x v : Int) (w : World) (hc : w.cell? ⟨b, off, none⟩ = some (.int .u32 x)) (hf : w.frozen? ⟨b, off, none⟩ = false) (hx0 : 0 ≤ x) (hx : x < 4294967296) :
    Calls Tryf.prog 46 #[.pointer (some ⟨b, off, none⟩), .int .i64 v] w (Stored b off (setAv x v) w) := by
  have hv := Lib.hid (valA x v hx0 hx)
  go_enter Tryf.func46, Tryf.ntmps46
  go_wp2
  go_end0
  exact ⟨rfl, by rw [hv.out]⟩

theorem setB_any (b off : Nat) (x v : Int) (w : World) (hc : w.cell? ⟨b, off, none⟩ = some (.int .u32 x)) (hf : w.frozen? ⟨b, off, none⟩ = false) (hx0 : 0 ≤ x) (hx : x < 4294967296) :
    Calls Tryf.prog 50 #[.pointer (some ⟨b, off, none⟩), .int .i64 v] w (Stored b off (setBv x v) w) := by
  have hv := Lib.hid (valB x v hx0 hx)
  go_enter Tryf.func50, Tryf.ntmps50
  go_wp2
  go_end0
  exact ⟨rfl, by rw [hv.out]⟩

theorem setC_any (b off : Nat) (x v : Int) (w : World) (hc : w.cell? ⟨b, off, none⟩ = some (.int .u32 x)) (hf : w.frozen? ⟨b, off, none⟩ = false) (hx0 : 0 ≤ x) (hx : x < 4294967296) :
    Calls Tryf.prog 51 #[.pointer (some ⟨b, off, none⟩), .int .i64 v] w (Stored b off (setCv x v) w) := by
  have hv := Lib.hid (valC x v hx0 hx)
  go_enter Tryf.func51, Tryf.ntmps51
  go_wp2
  go_end0
  exact ⟨rfl, by rw [hv.out]⟩

theorem setOp_any (b off : Nat) (x v : Int) (w : World) (hc : w.cell? ⟨b, off, none⟩ = some (.int .u32 x)) (hf : w.frozen? ⟨b, off, none⟩ = false) (hx0 : 0 ≤ x) (hx : x < 4294967296) :
    Calls Tryf.prog 49 #[.pointer (some ⟨b, off, none⟩), .int .i64 v] w (Stored b off (setOpv x v) w) := by
  have hv := Lib.hid (valOp x v hx0 hx)
  go_enter Tryf.func49, Tryf.ntmps49
  go_wp2
  go_end0
  exact ⟨rfl, by rw [hv.out]⟩
end Go.Proofs.YticnfohoddlolaaFmt
