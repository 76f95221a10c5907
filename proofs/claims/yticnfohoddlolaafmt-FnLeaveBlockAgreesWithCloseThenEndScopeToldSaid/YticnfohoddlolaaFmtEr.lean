/- More readers of a function context, and SetRegTop. -/
import Derived.Test.YticnfohoddlolaaFmtFk
namespace Go.Proofs.YticnfohoddlolaaFmt
open Go.ChangeShapes Go.WideShapes Go.ChangeAt Go.RowKit
set_option linter.unusedVariables false
set_option maxRecDepth 100000
section
variable {h : Nat} {ref : Bool} {po : Int} {an : Option Addr} {nn mn : Nat} {ai : Option Addr} {ni mi : Nat} {last : Int} {ad : Option Addr} {nd md : Nat} {blk : Nat} {rt : Int}
theorem regTop_any (w : World) (H : FC0 w h ref po an nn mn ai ni mi last ad nd md blk rt) :
    Calls Tryf.prog 21 #[.pointer (some ⟨h + 9, 0, none⟩)] w fun e w' => e = .returned (.int .i64 rt) ∧ w = w' := by
  have c6 : w.cell? ⟨h + 9, 6, none⟩ = some (.int .i64 rt) := H.fc.cell (i := 6) (by omega)
  go_enter Tryf.func21, Tryf.ntmps21
  go_wp2
  go_ret
  exact ⟨rfl, rfl⟩
theorem hasParent_any (w : World) (H : FC0 w h ref po an nn mn ai ni mi last ad nd md (h + 3) rt) :
    Calls Tryf.prog 22 #[.pointer (some ⟨h + 9, 0, none⟩)] w fun e w' => e = .returned (.bool true) ∧ w = w' := by
  have c4 : w.cell? ⟨h + 9, 4, none⟩ = some (.pointer (some ⟨h + 3, 0, none⟩)) := H.fc.cell (i := 4) (by omega)
  have b2 : w.cell? ⟨h + 3, 2, none⟩ = some (.pointer (some ⟨h + 1, 0, none⟩)) := H.bi.cell (i := 2) (by omega)
  go_enter Tryf.func22, Tryf.ntmps22
  go_wp2
  go_ret
  exact ⟨rfl, rfl⟩
theorem noParent_any (w : World) (H : FC0 w h ref po an nn mn ai ni mi last ad nd md (h + 1) rt) :
    Calls Tryf.prog 22 #[.pointer (some ⟨h + 9, 0, none⟩)] w fun e w' => e = .returned (.bool false) ∧ w = w' := by
  have c4 : w.cell? ⟨h + 9, 4, none⟩ = some (.pointer (some ⟨h + 1, 0, none⟩)) := H.fc.cell (i := 4) (by omega)
  have b2 : w.cell? ⟨h + 1, 2, none⟩ = some (.pointer none) := H.bp.cell (i := 2) (by omega)
  go_enter Tryf.func22, Tryf.ntmps22
  go_wp2
  go_ret
  exact ⟨rfl, rfl⟩
theorem blockLast_any (v : Int) (w : World) (H : FC0 w h ref po an nn mn ai ni mi last ad nd md (h + 3) rt) (hp0 : 0 ≤ po) (hp1 : po ≤ 1073741824) (hnn : nn ≤ 65536) (hni : ni ≤ 65536) (hv : po + nn + ni = v) :
    Calls Tryf.prog 23 #[.pointer (some ⟨h + 9, 0, none⟩)] w fun e w' => e = .returned (.int .i64 v) ∧ ∃ k, w.drewN k = w' := by
  have c4 : w.cell? ⟨h + 9, 4, none⟩ = some (.pointer (some ⟨h + 3, 0, none⟩)) := H.fc.cell (i := 4) (by omega)
  have b0 : w.cell? ⟨h + 3, 0, none⟩ = some (.pointer (some ⟨h + 2, 0, none⟩)) := H.bi.cell (i := 0) (by omega)
  have q0 : w.cell? ⟨h + 2, 0, none⟩ = some (.slice ai ni mi) := H.pi.cell (i := 0) (by omega)
  have q1 : w.cell? ⟨h + 2, 1, none⟩ = some (.int .i64 (po + nn)) := H.pi.cell (i := 1) (by omega)
  have HV := Lib.hid hv
  clear hv
  go_enter Tryf.func23, Tryf.ntmps23
  go_wp2_with fail
  refine (lastIndex_any (h + 2) (po + nn) ai ni mi _ q0 q1 (by omega) (by omega) (by omega)).mono ?_
  rintro e w1 ⟨rfl, q⟩
  have Q := Lib.hid q
  clear q
  rw [HV.out]
  go_wp2_with fail
  go_ret
  exact ⟨rfl, Q.out⟩
theorem blockLastP_any (v : Int) (w : World) (H : FC0 w h ref po an nn mn ai ni mi last ad nd md (h + 1) rt) (hp0 : 0 ≤ po) (hp1 : po ≤ 1073741824) (hnn : nn ≤ 65536) (hv : po + nn = v) :
    Calls Tryf.prog 23 #[.pointer (some ⟨h + 9, 0, none⟩)] w fun e w' => e = .returned (.int .i64 v) ∧ ∃ k, w.drewN k = w' := by
  have c4 : w.cell? ⟨h + 9, 4, none⟩ = some (.pointer (some ⟨h + 1, 0, none⟩)) := H.fc.cell (i := 4) (by omega)
  have b0 : w.cell? ⟨h + 1, 0, none⟩ = some (.pointer (some ⟨h, 0, none⟩)) := H.bp.cell (i := 0) (by omega)
  have q0 : w.cell? ⟨h, 0, none⟩ = some (.slice an nn mn) := H.pp.cell (i := 0) (by omega)
  have q1 : w.cell? ⟨h, 1, none⟩ = some (.int .i64 po) := H.pp.cell (i := 1) (by omega)
  have HV := Lib.hid hv
  clear hv
  go_enter Tryf.func23, Tryf.ntmps23
  go_wp2_with fail
  refine (lastIndex_any h po an nn mn _ q0 q1 (by omega) (by omega) (by omega)).mono ?_
  rintro e w1 ⟨rfl, q⟩
  have Q := Lib.hid q
  clear q
  rw [HV.out]
  go_wp2_with fail
  go_ret
  exact ⟨rfl, Q.out⟩
theorem FC0.drewN {w : World} (H : FC0 w h ref po an nn mn ai ni mi last ad nd md blk rt) (k : Nat) : FC0 (w.drewN k) h ref po an nn mn ai ni mi last ad nd md blk rt := H.keep fun _ _ _ _ => rfl
theorem FC0.setRt {w : World} (H : FC0 w h ref po an nn mn ai ni mi last ad nd md blk rt) (t : Int) : FC0 (w.setCell ⟨h + 9, 6, none⟩ (.int .i64 t)) h ref po an nn mn ai ni mi last ad nd md blk t := by
  refine ⟨H.pp.setOther (a := ⟨h + 9, 6, none⟩) (show h ≠ h + 9 by omega) _, H.bp.setOther (a := ⟨h + 9, 6, none⟩) (show h + 1 ≠ h + 9 by omega) _, H.pi.setOther (a := ⟨h + 9, 6, none⟩) (show h + 2 ≠ h + 9 by omega) _, H.bi.setOther (a := ⟨h + 9, 6, none⟩) (show h + 3 ≠ h + 9 by omega) _,
    H.pr.setOther (a := ⟨h + 9, 6, none⟩) (show h + 4 ≠ h + 9 by omega) _, H.bl.setOther (a := ⟨h + 9, 6, none⟩) (show h + 6 ≠ h + 9 by omega) _, (Below.heap_setCell _ ⟨h + 9, 6, none⟩ _ _ (show h + 7 ≠ h + 9 by omega)).trans H.m7, (Below.heap_setCell _ ⟨h + 9, 6, none⟩ _ _ (show h + 8 ≠ h + 9 by omega)).trans H.m8,
    (H.fc.set 6 _).congr fun i hi => ?_⟩
  match i, hi with
  | 0, _ => rfl
  | 1, _ => rfl
  | 2, _ => rfl
  | 3, _ => rfl
  | 4, _ => rfl
  | 5, _ => rfl
  | 6, _ => rfl
  | 7, _ => rfl
  | 8, _ => rfl
  | 9, _ => rfl
  | 10, _ => rfl
theorem setRegTop_any (t : Int) (w : World) (H : FC0 w h ref po an nn mn ai ni mi last ad nd md blk rt) (ht : t ≤ 200) : Calls Tryf.prog 20 #[.pointer (some ⟨h + 9, 0, none⟩), .int .i64 t] w fun e w' => e = .returned (.tuple #[]) ∧ w.setCell ⟨h + 9, 6, none⟩ (.int .i64 t) = w' := by
  have c6 : w.cell? ⟨h + 9, 6, none⟩ = some (.int .i64 rt) := H.fc.cell (i := 6) (by omega)
  have f6 := H.fc.frozen 6
  have hd : decide (200 < t) = false := by simp; omega
  go_enter Tryf.func20, Tryf.ntmps20
  go_wp2
  go_end0
  go_wp2
  go_end0
  exact ⟨rfl, rfl⟩
end
end Go.Proofs.YticnfohoddlolaaFmt
