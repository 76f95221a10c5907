/- LeaveBlock (n005_43): its contract with and without a captured upvalue. -/
import Derived.Test.YticnfohoddlolaaFmtEl
namespace Go.Proofs.YticnfohoddlolaaFmt
open Go.ChangeShapes Go.WideShapes Go.ChangeAt Go.RowKit
set_option linter.unusedVariables false
set_option maxRecDepth 100000
section
variable {h : Nat} {ref : Bool} {po : Int} {an : Option Addr} {nn mn : Nat} {ai : Option Addr} {ni mi : Nat} {last : Int} {ad : Option Addr} {nd md : Nat} {blk : Nat} {rt : Int}
theorem closeInNo_any (w : World) (H : FC0 w h false po an nn mn ai ni mi last ad nd md (h + 3) rt) :
    Calls Tryf.prog 28 #[.pointer (some ⟨h + 9, 0, none⟩)] w fun e w' => e = .returned (.int .i64 (-1)) ∧ w = w' := by
  have c4 : w.cell? ⟨h + 9, 4, none⟩ = some (.pointer (some ⟨h + 3, 0, none⟩)) := H.fc.cell (i := 4) (by omega)
  have b3 : w.cell? ⟨h + 3, 3, none⟩ = some (.bool false) := H.bi.cell (i := 3) (by omega)
  go_enter Tryf.func28, Tryf.ntmps28
  go_wp2
  go_ret
  exact ⟨rfl, rfl⟩

theorem closeInYes_any (B n pc : Nat) (a0 a1 : Option Addr) (c0 c1 : Nat) (xs ys : List Value) (w : World) (H : FC0 w h true po an nn mn ai ni mi last ad nd md (h + 3) rt) (hp0 : 0 ≤ po) (hp1 : po ≤ 1073741824) (hnn : nn ≤ 65536)
    (hs : w.rowIs (h + 5) 63 3 (st3 (.slice a0 n c0) (.slice a1 n c1) (.int .i64 pc)))
    (h0 : w.ownsRow B 36 1 (.slice a0 n c0) n xs) (h1 : w.ownsRow B 3 1 (.slice a1 n c1) n ys) (hn : n ≤ 1048576) (hp : pc ≤ n) (hB : B ≤ w.heap.size) :
    Calls Tryf.prog 28 #[.pointer (some ⟨h + 9, 0, none⟩)] w fun e w' => e = .returned (.int .i64 (po + nn)) ∧
      Added B (h + 5) (nAt n pc) (.slice a0 n c0) (.slice a1 n c1) (putAt xs n pc (.int .u32 (createv 38 (po + nn) 0 0))) (putAt ys n pc (.int .i64 last)) (pc + 1) w (.returned (.tuple #[])) w' := by
  have c4 : w.cell? ⟨h + 9, 4, none⟩ = some (.pointer (some ⟨h + 3, 0, none⟩)) := H.fc.cell (i := 4) (by omega)
  have c1' : w.cell? ⟨h + 9, 1, none⟩ = some (.pointer (some ⟨h + 5, 0, none⟩)) := H.fc.cell (i := 1) (by omega)
  have b3 : w.cell? ⟨h + 3, 3, none⟩ = some (.bool true) := H.bi.cell (i := 3) (by omega)
  have b2 : w.cell? ⟨h + 3, 2, none⟩ = some (.pointer (some ⟨h + 1, 0, none⟩)) := H.bi.cell (i := 2) (by omega)
  have b5 : w.cell? ⟨h + 3, 5, none⟩ = some (.int .i64 last) := H.bi.cell (i := 5) (by omega)
  have p0 : w.cell? ⟨h + 1, 0, none⟩ = some (.pointer (some ⟨h, 0, none⟩)) := H.bp.cell (i := 0) (by omega)
  have q0 : w.cell? ⟨h, 0, none⟩ = some (.slice an nn mn) := H.pp.cell (i := 0) (by omega)
  have q1 : w.cell? ⟨h, 1, none⟩ = some (.int .i64 po) := H.pp.cell (i := 1) (by omega)
  go_enter Tryf.func28, Tryf.ntmps28
  go_wp2_with fail
  refine (lastIndex_any h po an nn mn _ q0 q1 hp0 (by omega) (by omega)).mono ?_
  rintro e w1 ⟨rfl, k, hw⟩
  have c4 : w1.cell? ⟨h + 9, 4, none⟩ = some (.pointer (some ⟨h + 3, 0, none⟩)) := by rw [← hw]; exact c4
  have c1' : w1.cell? ⟨h + 9, 1, none⟩ = some (.pointer (some ⟨h + 5, 0, none⟩)) := by rw [← hw]; exact c1'
  have b5 : w1.cell? ⟨h + 3, 5, none⟩ = some (.int .i64 last) := by rw [← hw]; exact b5
  have hs1 := (show (w.drewN k).rowIs _ _ _ _ from hs)
  have h01 := (show (w.drewN k).ownsRow _ _ _ _ _ _ from h0)
  have h11 := (show (w.drewN k).ownsRow _ _ _ _ _ _ from h1)
  have hB1 := (show B ≤ (w.drewN k).heap.size from hB)
  have hk := fun (W : World) (hh : AddKept (h + 5) (Value.slice a0 n c0).ownBlock (Value.slice a1 n c1).ownBlock (w.drewN k) W) => hh.of_drewN
  rw [hw] at hs1 h01 h11 hB1 hk
  have HK := Lib.hid hk
  clear hw hk
  go_wp2_with fail
  go_still_tail 12, (by kernel_rfl)
  go_wp2_with fail
  refine (addABC_any B (h + 5) n pc a0 a1 c0 c1 xs ys 38 (po + nn) 0 0 last w1.drew hs1 h01 h11 hn hp hB1).mono ?_
  rintro e w2 ⟨rfl, g0, g1, p0, p1, k0, k1, k2, k3⟩
  have K0 := Lib.hid k0
  have K1 := Lib.hid k1
  have K2 := Lib.hid k2
  clear k0 k1 k2
  go_wp2_with fail
  go_ret
  exact ⟨rfl, rfl, g0, g1, p0, p1, K0.out, K1.out, K2.out, HK.out _ ⟨k3.os, k3.tape, k3.output, k3.size, k3.block⟩⟩

theorem FC0.setBlk {w : World} (H : FC0 w h ref po an nn mn ai ni mi last ad nd md blk rt) (b : Nat) : FC0 (w.setCell ⟨h + 9, 4, none⟩ (.pointer (some ⟨b, 0, none⟩))) h ref po an nn mn ai ni mi last ad nd md b rt := by
  refine ⟨H.pp.setOther (a := ⟨h + 9, 4, none⟩) (show h ≠ h + 9 by omega) _, H.bp.setOther (a := ⟨h + 9, 4, none⟩) (show h + 1 ≠ h + 9 by omega) _, H.pi.setOther (a := ⟨h + 9, 4, none⟩) (show h + 2 ≠ h + 9 by omega) _, H.bi.setOther (a := ⟨h + 9, 4, none⟩) (show h + 3 ≠ h + 9 by omega) _,
    H.pr.setOther (a := ⟨h + 9, 4, none⟩) (show h + 4 ≠ h + 9 by omega) _, H.bl.setOther (a := ⟨h + 9, 4, none⟩) (show h + 6 ≠ h + 9 by omega) _, (Below.heap_setCell _ ⟨h + 9, 4, none⟩ _ _ (show h + 7 ≠ h + 9 by omega)).trans H.m7, (Below.heap_setCell _ ⟨h + 9, 4, none⟩ _ _ (show h + 8 ≠ h + 9 by omega)).trans H.m8,
    (H.fc.set 4 _).congr fun i hi => ?_⟩
  match i, hi with
  | 0, _ => rfl
  | 1, _ => rfl
  | 2, _ => rfl
  | 3, _ => rfl
  | 4, _ => rfl
  | 5, _ => rfl
  | 6, _ => rfl
  | 7, _ => rfl
  | 8, _ => rfl
  | 9, _ => rfl
  | 10, _ => rfl
theorem setRegTopIn_any (t : Int) (w : World) (H : FC0 w h ref po an nn mn ai ni mi last ad nd md blk rt) (ht : t ≤ 200) : Calls Tryf.prog 30 #[.pointer (some ⟨h + 9, 0, none⟩), .int .i64 t] w fun e w' => e = .returned (.tuple #[]) ∧ w.setCell ⟨h + 9, 6, none⟩ (.int .i64 t) = w' := by
  have c6 : w.cell? ⟨h + 9, 6, none⟩ = some (.int .i64 rt) := H.fc.cell (i := 6) (by omega)
  have f6 := H.fc.frozen 6
  have hd : decide (200 < t) = false := by simp; omega
  go_enter Tryf.func30, Tryf.ntmps30
  go_wp2
  go_end0
  exact ⟨rfl, rfl⟩
theorem count1_any (w : World) (H : FC0 w h ref po an nn mn ai ni mi last ad nd md blk rt) (hnn : nn ≤ 65536) : Calls Tryf.prog 38 #[.pointer (some ⟨h + 1, 0, none⟩)] w fun e w' => e = .returned (.int .i64 nn) ∧ ∃ k, w.drewN k = w' := by
  have p0 : w.cell? ⟨h + 1, 0, none⟩ = some (.pointer (some ⟨h, 0, none⟩)) := H.bp.cell (i := 0) (by omega)
  have p2 : w.cell? ⟨h + 1, 2, none⟩ = some (.pointer none) := H.bp.cell (i := 2) (by omega)
  have q0 : w.cell? ⟨h, 0, none⟩ = some (.slice an nn mn) := H.pp.cell (i := 0) (by omega)
  clear H
  go_enter Tryf.func38, Tryf.ntmps38
  go_wp2
  go_loopw [3, 4] (fun cv bl wr => (∃ k, wr = w.drewN k ∧ bl = .pointer (some ⟨h + 1, 0, none⟩) ∧ cv = .int .i64 0) ∨ (∃ k, wr = w.drewN k ∧ bl = .pointer none ∧ cv = .int .i64 nn)) (fun _ bl _ => match bl with | .pointer (some x) => 1 | _ => 0)
  case atStart => exact .inl ⟨0, rfl, rfl, rfl⟩
  case round =>
    rcases hrel with ⟨k, rfl, rfl, rfl⟩ | ⟨k, rfl, rfl, rfl⟩
    · go_wp2
      go_roundw
      case rel => exact .inr ⟨k, rfl, rfl, by go_num⟩
      case measure => simp
    · go_wp2
      go_ret
      exact ⟨rfl, _, rfl⟩
theorem resolve_any (w : World) (H : FC0 w h ref po an nn mn ai ni mi last ad nd md (h + 3) rt) (hnn : nn ≤ 65536) : Calls Tryf.prog 33 #[.pointer (some ⟨h + 9, 0, none⟩)] w fun e w' => e = .returned (.tuple #[]) ∧ ∃ k, w.drewN k = w' := by
  have c4 : w.cell? ⟨h + 9, 4, none⟩ = some (.pointer (some ⟨h + 3, 0, none⟩)) := H.fc.cell (i := 4) (by omega)
  have b2 : w.cell? ⟨h + 3, 2, none⟩ = some (.pointer (some ⟨h + 1, 0, none⟩)) := H.bi.cell (i := 2) (by omega)
  go_enter Tryf.func33, Tryf.ntmps33
  go_wp2_with fail
  refine (count1_any _ H hnn).mono ?_
  rintro e w1 ⟨rfl, k, hw⟩
  have H1 := Lib.hid (H.drewN k)
  have D1 := Lib.hid (show ∃ k, w.drewN k = w1 from ⟨k, hw⟩)
  rw [hw] at H1
  have c4 : w1.cell? ⟨h + 9, 4, none⟩ = some (.pointer (some ⟨h + 3, 0, none⟩)) := H1.out.fc.cell (i := 4) (by omega)
  have c9 : w1.cell? ⟨h + 9, 9, none⟩ = some (.int .i64 0) := H1.out.fc.cell (i := 9) (by omega)
  have b7 : w1.cell? ⟨h + 3, 7, none⟩ = some (.int .i64 0) := H1.out.bi.cell (i := 7) (by omega)
  clear hw H b2
  go_wp2_with fail
  go_loopw [3] (fun i wr => i = .int .i64 0 ∧ ∃ k, wr = w1.drewN k) (fun _ _ => 0)
  case atStart => exact ⟨rfl, 0, rfl⟩
  case round =>
    obtain ⟨rfl, k, rfl⟩ := hrel
    go_wp2_with fail
    try (go_quiet (fail); go_wp2_with fail)
    go_end0
    obtain ⟨k0, hk0⟩ := D1.out
    subst hk0
    exact ⟨rfl, _, (World.drewN_drewN ..).symm⟩
end

/-- What stays under LeaveBlock: every block but the named ones. -/
def Stays (h g nd : Nat) (r0 r1 : Option Nat) (w w' : World) : Prop := w.heap.size ≤ w'.heap.size ∧ w'.os = w.os ∧ w'.tape = w.tape ∧ w'.output = w.output ∧
  ∀ q, q < w.heap.size → q ≠ h + 5 → q ≠ h + 9 → some q ≠ r0 → some q ≠ r1 → (q ≤ g ∨ g + nd < q) → w'.heap[q]? = w.heap[q]?

set_option maxHeartbeats 2000000 in
theorem leaveNo_any (h : Nat) (po : Int) (an : Option Addr) (nn mn : Nat) (ai : Option Addr) (ni : Nat) (last : Int) (g nd md : Nat) (rt : Int) (zs : List ByteArray) (e : Nat → Int) (pcv : Int) (B0 : Nat) (w : World)
    (H : FC0 w h false po an nn mn ai ni ni last (some ⟨g, 0, none⟩) nd md (h + 3) rt) (hp0 : 0 ≤ po) (hp1 : po ≤ 65536) (hpt : po + nn ≤ 200) (hni : ni ≤ 65536) (X : Got B0 w ai 9 ni (fun i => .string (zs.getD i ByteArray.empty))) (hz : zs.length = ni)
    (hc : w.cell? ⟨h + 5, 2, none⟩ = some (.int .i64 pcv)) (hq0 : 0 ≤ pcv) (hq1 : pcv ≤ 1048576) (I : Infos w g nd e) (hgh : g + nd < h) (hhi : po + nn + ni ≤ nd) :
    Calls Tryf.prog 27 #[.pointer (some ⟨h + 9, 0, none⟩)] w fun en w' => en = .returned (.int .i64 (-1)) ∧ FC0 w' h false po an nn mn ai ni ni last (some ⟨g, 0, none⟩) nd md (h + 1) (po + nn) ∧ Infos w' g nd (fun i => stamp (po + nn) (po + nn + ni) pcv (e i) i) ∧ Stays h g nd none none w w' ∧ w'.heap[h + 5]? = w.heap[h + 5]? := by
  obtain ⟨ref0, hr0⟩ : ∃ b : Bool, b = false := ⟨_, rfl⟩
  have hHl : h + 9 < w.heap.size := H.fc.lt
  go_enter Tryf.func27, Tryf.ntmps27
  go_wp2_with fail
  refine (closeInNo_any _ H).mono ?_
  rintro en w1 ⟨rfl, rfl⟩
  obtain ⟨w1, hw1⟩ : ∃ v, v = w := ⟨_, rfl⟩
  have H1 : Hid (FC0 w1 h ref0 po an nn mn ai ni ni last (some ⟨g, 0, none⟩) nd md (h + 3) rt) := by rw [hw1, hr0]; exact H
  have C1 : Hid (w1.cell? ⟨h + 5, 2, none⟩ = some (.int .i64 pcv)) := by rw [hw1]; exact hc
  have I1 : Hid (Infos w1 g nd e) := by rw [hw1]; exact I
  have X1 : Hid (Got B0 w1 ai 9 ni (fun i => .string (zs.getD i ByteArray.empty))) := by rw [hw1]; exact X
  have HR := Lib.hid hr0
  have HW := Lib.hid hw1
  rw [← hw1]
  clear H hc I X hr0 hw1
  go_wp2_with fail
  refine (endScope_any h ref0 po an nn mn ai ni ni last g nd md rt zs e pcv _ H1.out hp0 hp1 (by omega) hni (got_row X1.out hz (by omega)) C1.out hq0 hq1 I1.out hgh hhi).mono ?_
  rintro en w2 ⟨rfl, J, sj, oj, tj, pj, kj⟩
  have H2 := Lib.hid (H1.out.keep (w' := w2) fun c ha hb _ => kj c (by have := H1.out.fc.lt; omega) (.inr (by omega)))
  have J2 := Lib.hid J
  have S2 := Lib.hid (show w1.heap.size ≤ w2.heap.size ∧ w2.os = w1.os ∧ w2.tape = w1.tape ∧ w2.output = w1.output ∧ ∀ q, q < w1.heap.size → (q ≤ g ∨ g + nd < q) → w2.heap[q]? = w1.heap[q]? from ⟨sj, oj, tj, pj, kj⟩)
  have l2 : h + 9 < w2.heap.size := H2.out.fc.lt
  have c4 : w2.cell? ⟨h + 9, 4, none⟩ = some (.pointer (some ⟨h + 3, 0, none⟩)) := H2.out.fc.cell (i := 4) (by omega)
  have b2 : w2.cell? ⟨h + 3, 2, none⟩ = some (.pointer (some ⟨h + 1, 0, none⟩)) := H2.out.bi.cell (i := 2) (by omega)
  clear J sj oj tj pj kj H1 C1 I1 X1
  go_wp2_with fail
  refine (resolve_any _ H2.out (by omega)).mono ?_
  rintro en w3 ⟨rfl, k3, hw3⟩
  have H3 := Lib.hid (H2.out.drewN k3)
  have J3 := Lib.hid (show Infos (w2.drewN k3) g nd _ from ⟨J2.out.1, J2.out.2⟩)
  have S3 := Lib.hid (show w1.heap.size ≤ (w2.drewN k3).heap.size ∧ (w2.drewN k3).os = w1.os ∧ (w2.drewN k3).tape = w1.tape ∧ (w2.drewN k3).output = w1.output ∧ ∀ q, q < w1.heap.size → (q ≤ g ∨ g + nd < q) → (w2.drewN k3).heap[q]? = w1.heap[q]? from S2.out)
  rw [hw3] at H3 J3 S3
  have c4 : w3.cell? ⟨h + 9, 4, none⟩ = some (.pointer (some ⟨h + 3, 0, none⟩)) := H3.out.fc.cell (i := 4) (by omega)
  have f4 := H3.out.fc.frozen 4
  have b2 : w3.cell? ⟨h + 3, 2, none⟩ = some (.pointer (some ⟨h + 1, 0, none⟩)) := H3.out.bi.cell (i := 2) (by omega)
  have p0 : w3.cell? ⟨h + 1, 0, none⟩ = some (.pointer (some ⟨h, 0, none⟩)) := H3.out.bp.cell (i := 0) (by omega)
  have H4 := Lib.hid (H3.out.setBlk (h + 1))
  have l3 : h + 9 < w3.heap.size := H3.out.fc.lt
  clear H2 J2 S2 hw3 c4
  have c4 : w3.cell? ⟨h + 9, 4, none⟩ = some (.pointer (some ⟨h + 3, 0, none⟩)) := H3.out.fc.cell (i := 4) (by omega)
  go_wp2_with fail
  try (go_still_tail 12, (by kernel_rfl); go_wp2_with fail)
  have q0 : (w3.setCell ⟨h + 9, 4, none⟩ (.pointer (some ⟨h + 1, 0, none⟩))).cell? ⟨h, 0, none⟩ = some (.slice an nn mn) := H4.out.pp.cell (i := 0) (by omega)
  have q1 : (w3.setCell ⟨h + 9, 4, none⟩ (.pointer (some ⟨h + 1, 0, none⟩))).cell? ⟨h, 1, none⟩ = some (.int .i64 po) := H4.out.pp.cell (i := 1) (by omega)
  refine (lastIndex_any h po an nn mn _ q0 q1 hp0 (by omega) (by omega)).mono ?_
  rintro en w4 ⟨rfl, k4, hw4⟩
  have H5 := Lib.hid (H4.out.drewN k4)
  have J5 := Lib.hid (show Infos ((w3.setCell ⟨h + 9, 4, none⟩ (.pointer (some ⟨h + 1, 0, none⟩))).drewN k4) g nd _ from ⟨J3.out.1.setOther (a := ⟨h + 9, 4, none⟩) (show g ≠ h + 9 by omega) _, fun i hi => (J3.out.2 i hi).setOther (a := ⟨h + 9, 4, none⟩) (show g + 1 + i ≠ h + 9 by omega) _⟩)
  have z5 : ((w3.setCell ⟨h + 9, 4, none⟩ (.pointer (some ⟨h + 1, 0, none⟩))).drewN k4).heap.size = w3.heap.size := size_setC w3 _ _
  have S5 := Lib.hid (show w1.heap.size ≤ ((w3.setCell ⟨h + 9, 4, none⟩ (.pointer (some ⟨h + 1, 0, none⟩))).drewN k4).heap.size ∧ ((w3.setCell ⟨h + 9, 4, none⟩ (.pointer (some ⟨h + 1, 0, none⟩))).drewN k4).os = w1.os ∧ ((w3.setCell ⟨h + 9, 4, none⟩ (.pointer (some ⟨h + 1, 0, none⟩))).drewN k4).tape = w1.tape ∧ ((w3.setCell ⟨h + 9, 4, none⟩ (.pointer (some ⟨h + 1, 0, none⟩))).drewN k4).output = w1.output ∧ ∀ q, q < w1.heap.size → q ≠ h + 9 → (q ≤ g ∨ g + nd < q) → ((w3.setCell ⟨h + 9, 4, none⟩ (.pointer (some ⟨h + 1, 0, none⟩))).drewN k4).heap[q]? = w1.heap[q]? from ⟨by rw [z5]; exact S3.out.1, S3.out.2.1, S3.out.2.2.1, S3.out.2.2.2.1, fun q hq hne ho => (Below.heap_setCell w3 ⟨h + 9, 4, none⟩ _ q hne).trans (S3.out.2.2.2.2 q hq ho)⟩)
  rw [hw4] at H5 J5 S5
  clear H4 H3 J3 S3 hw4 q0 q1 c4 f4 b2 p0 z5
  go_wp2_with fail
  refine (setRegTopIn_any (po + nn) _ H5.out hpt).mono ?_
  rintro en w5 ⟨rfl, hw5⟩
  have H6 := Lib.hid (H5.out.setRt (po + nn))
  have J6 := Lib.hid (show Infos (w4.setCell ⟨h + 9, 6, none⟩ (.int .i64 (po + nn))) g nd _ from ⟨J5.out.1.setOther (a := ⟨h + 9, 6, none⟩) (show g ≠ h + 9 by omega) _, fun i hi => (J5.out.2 i hi).setOther (a := ⟨h + 9, 6, none⟩) (show g + 1 + i ≠ h + 9 by omega) _⟩)
  have S6 := Lib.hid (show w1.heap.size ≤ (w4.setCell ⟨h + 9, 6, none⟩ (.int .i64 (po + nn))).heap.size ∧ (w4.setCell ⟨h + 9, 6, none⟩ (.int .i64 (po + nn))).os = w1.os ∧ (w4.setCell ⟨h + 9, 6, none⟩ (.int .i64 (po + nn))).tape = w1.tape ∧ (w4.setCell ⟨h + 9, 6, none⟩ (.int .i64 (po + nn))).output = w1.output ∧ ∀ q, q < w1.heap.size → q ≠ h + 9 → (q ≤ g ∨ g + nd < q) → (w4.setCell ⟨h + 9, 6, none⟩ (.int .i64 (po + nn))).heap[q]? = w1.heap[q]? from
    ⟨by rw [size_setC]; exact S5.out.1, S5.out.2.1, S5.out.2.2.1, S5.out.2.2.2.1, fun q hq hne ho => (Below.heap_setCell w4 ⟨h + 9, 6, none⟩ _ q hne).trans (S5.out.2.2.2.2 q hq hne ho)⟩)
  rw [hw5] at H6 J6 S6
  clear H5 J5 S5 hw5
  go_wp2_with fail
  go_ret
  obtain rfl := HW.out
  obtain rfl := HR.out
  obtain ⟨t1, t2, t3, t4, t5⟩ := S6.out
  exact ⟨rfl, H6.out, J6.out, ⟨t1, t2, t3, t4, fun q a b c _ _ d => t5 q a c d⟩, t5 (h + 5) (by omega) (by omega) (.inr (by omega))⟩

theorem own_keep {w w' : World} {B T n m x : Nat} {xs : List Value} (h : w.ownsRow B T 1 (.slice (some ⟨x, 0, none⟩) n m) n xs) (hx : w'.heap[x]? = w.heap[x]?) : w'.ownsRow B T 1 (.slice (some ⟨x, 0, none⟩) n m) n xs := by
  obtain ⟨h1, ⟨h2, h3⟩ | ⟨g, cap, cur, hv, hg, hh, r⟩⟩ := h
  · cases h2
  · cases hv
    exact ⟨h1, .inr ⟨x, _, cur, rfl, hg, hx.trans hh, r⟩⟩
theorem own_lt' {w : World} {B T x n m : Nat} {xs : List Value} (h : w.ownsRow B T 1 (.slice (some ⟨x, 0, none⟩) n m) n xs) : x < w.heap.size := by
  obtain ⟨_, ⟨h3, _⟩ | ⟨g, cap, cur, h3, _, hh, _⟩⟩ := h
  · cases h3
  · cases h3
    exact lt_of_block hh
theorem own_ne' {w : World} {B c m T T' x n k : Nat} {f : Nat → Value} {xs : List Value} (hs : w.rowIs c T m f) (h : w.ownsRow B T' 1 (.slice (some ⟨x, 0, none⟩) n k) n xs) (hT : T ≠ T') : x ≠ c := by
  have := own_ne_row hs h hT
  simpa [Value.ownBlock] using this
theorem own_out {w : World} {B T x n m g nd : Nat} {xs : List Value} {e : Nat → Int} (I : Infos w g nd e) (h : w.ownsRow B T 1 (.slice (some ⟨x, 0, none⟩) n m) n xs) (hT : 40 ≠ T) : x ≤ g ∨ g + nd < x := by
  by_cases hx : x ≤ g
  · exact .inl hx
  by_cases hy : g + nd < x
  · exact .inr hy
  · have := own_ne' (I.2 (x - g - 1) (by omega)) h hT
    omega
theorem Infos.kept {w w' : World} {g nd c B : Nat} {v0 v1 : Value} {n n' : Nat} {xs ys : List Value} {e : Nat → Int} (I : Infos w g nd e) (h0 : w.ownsRow B 36 1 v0 n xs) (h1 : w.ownsRow B 3 1 v1 n' ys) (K : AddKept c v0.ownBlock v1.ownBlock w w') (hc : g + nd < c) : Infos w' g nd e :=
  ⟨I.1.of_block (K.block _ I.1.lt (by omega) (fun e => own_ne_row I.1 h0 (by decide) e.symm) (fun e => own_ne_row I.1 h1 (by decide) e.symm)),
    fun i hi => (I.2 i hi).of_block (K.block _ (I.2 i hi).lt (by omega) (fun e => own_ne_row (I.2 i hi) h0 (by decide) e.symm) (fun e => own_ne_row (I.2 i hi) h1 (by decide) e.symm))⟩
theorem got_kept {w w' : World} {B0 c B : Nat} {v0 v1 : Value} {n n' nx : Nat} {xs ys : List Value} {a : Option Addr} {f : Nat → Value} (X : Got B0 w a 9 nx f) (h0 : w.ownsRow B 36 1 v0 n xs) (h1 : w.ownsRow B 3 1 v1 n' ys) (K : AddKept c v0.ownBlock v1.ownBlock w w') (hc : ∀ x, a = some x → x.block ≠ c) : Got B0 w' a 9 nx f := by
  rcases X with h | ⟨b, rfl, hB, hr⟩
  · exact .inl h
  · exact .inr ⟨b, rfl, hB, hr.of_block (K.block _ hr.lt (hc _ rfl) (fun e => own_ne_row hr h0 (by decide) e.symm) (fun e => own_ne_row hr h1 (by decide) e.symm))⟩

set_option maxHeartbeats 2000000 in
theorem leaveYes_any (h : Nat) (po : Int) (an : Option Addr) (nn mn : Nat) (ai : Option Addr) (ni : Nat) (last : Int) (g nd md : Nat) (rt : Int) (zs : List ByteArray) (e : Nat → Int) (B0 : Nat) (w : World)
    (B n : Nat) (a0 a1 : Option Addr) (c0 c1 : Nat) (xs ys : List Value)
    (H : FC0 w h true po an nn mn ai ni ni last (some ⟨g, 0, none⟩) nd md (h + 3) rt) (hp0 : 0 ≤ po) (hp1 : po ≤ 65536) (hpt : po + nn ≤ 200) (hni : ni ≤ 65536) (X : Got B0 w ai 9 ni (fun i => .string (zs.getD i ByteArray.empty))) (hz : zs.length = ni) (hX : ∀ x, ai = some x → x.block ≠ h + 5)
    (hs : w.rowIs (h + 5) 63 3 (st3 (.slice a0 n c0) (.slice a1 n c1) (.int .i64 n))) (h0 : w.ownsRow B 36 1 (.slice a0 n c0) n xs) (h1 : w.ownsRow B 3 1 (.slice a1 n c1) n ys) (hn : n ≤ 65536) (hB : B ≤ w.heap.size)
    (I : Infos w g nd e) (hgh : g + nd < h) (hhi : po + nn + ni ≤ nd) :
    Calls Tryf.prog 27 #[.pointer (some ⟨h + 9, 0, none⟩)] w fun en w' => en = .returned (.int .i64 (po + nn)) ∧ FC0 w' h true po an nn mn ai ni ni last (some ⟨g, 0, none⟩) nd md (h + 1) (po + nn) ∧ Infos w' g nd (fun i => stamp (po + nn) (po + nn + ni) (n + 1) (e i) i) ∧ Stays h g nd (Value.slice a0 n c0).ownBlock (Value.slice a1 n c1).ownBlock w w' ∧
      ∃ x7 y7 p7 q7, w'.rowIs (h + 5) 63 3 (st3 (.slice (some ⟨x7, 0, none⟩) (n + 1) p7) (.slice (some ⟨y7, 0, none⟩) (n + 1) q7) (.int .i64 ((n : Int) + 1))) ∧
        w'.ownsRow B 36 1 (.slice (some ⟨x7, 0, none⟩) (n + 1) p7) (n + 1) (putAt xs n n (.int .u32 (createv 38 (po + nn) 0 0))) ∧ w'.ownsRow B 3 1 (.slice (some ⟨y7, 0, none⟩) (n + 1) q7) (n + 1) (putAt ys n n (.int .i64 last)) := by
  obtain ⟨ref0, hr0⟩ : ∃ b : Bool, b = true := ⟨_, rfl⟩
  obtain ⟨pcv, hpc⟩ : ∃ p : Int, p = (n : Int) + 1 := ⟨_, rfl⟩
  have hq0 : 0 ≤ pcv := by omega
  have hq1 : pcv ≤ 1048576 := by omega
  go_enter Tryf.func27, Tryf.ntmps27
  go_wp2_with fail
  refine (closeInYes_any B n n _ _ _ _ _ _ _ H hp0 (by omega) (by omega) hs h0 h1 (by omega) (Nat.le_refl _) hB).mono ?_
  rintro en w1 ⟨rfl, -, x7, y7, p7, q7, T7, OC7, OL7, K7⟩
  have F7 := H.kept h0 h1 K7
  rw [nAt_self] at T7 OC7 OL7
  have H1 : Hid (FC0 w1 h ref0 po an nn mn ai ni ni last (some ⟨g, 0, none⟩) nd md (h + 3) rt) := by rw [hr0]; exact F7
  have C1 : Hid (w1.cell? ⟨h + 5, 2, none⟩ = some (.int .i64 pcv)) := by rw [hpc]; exact T7.cell (i := 2) (by omega)
  have I1 := Lib.hid (I.kept h0 h1 K7 (show g + nd < h + 5 by omega))
  have X1 := Lib.hid (got_kept X h0 h1 K7 hX)
  have TT := Lib.hid T7
  have OO := Lib.hid OC7
  have LL := Lib.hid OL7
  have KK := Lib.hid (show w.heap.size ≤ w1.heap.size ∧ w1.os = w.os ∧ w1.tape = w.tape ∧ w1.output = w.output ∧ ∀ q, q < w.heap.size → q ≠ h + 5 → some q ≠ (Value.slice a0 n c0).ownBlock → some q ≠ (Value.slice a1 n c1).ownBlock → w1.heap[q]? = w.heap[q]? from ⟨K7.size, K7.os, K7.tape, K7.output, K7.block⟩)
  have ox := Lib.hid (show (x7 ≤ g ∨ g + nd < x7) ∧ x7 ≠ h + 9 ∧ x7 < w1.heap.size from ⟨own_out I1.out OC7 (by decide), own_ne' F7.fc OC7 (by decide), own_lt' OC7⟩)
  have oy := Lib.hid (show (y7 ≤ g ∨ g + nd < y7) ∧ y7 ≠ h + 9 ∧ y7 < w1.heap.size from ⟨own_out I1.out OL7 (by decide), own_ne' F7.fc OL7 (by decide), own_lt' OL7⟩)
  have HR := Lib.hid hr0
  have HP := Lib.hid hpc
  clear H X hs h0 h1 I F7 T7 OC7 OL7 K7 hr0 hpc
  go_wp2_with fail
  refine (endScope_any h ref0 po an nn mn ai ni ni last g nd md rt zs e pcv _ H1.out hp0 hp1 (by omega) hni (got_row X1.out hz (by omega)) C1.out hq0 hq1 I1.out hgh hhi).mono ?_
  rintro en w2 ⟨rfl, J, sj, oj, tj, pj, kj⟩
  have H2 := Lib.hid (H1.out.keep (w' := w2) fun c ha hb _ => kj c (by have := H1.out.fc.lt; omega) (.inr (by omega)))
  have J2 := Lib.hid J
  have S2 := Lib.hid (show w1.heap.size ≤ w2.heap.size ∧ w2.os = w1.os ∧ w2.tape = w1.tape ∧ w2.output = w1.output ∧ ∀ q, q < w1.heap.size → (q ≤ g ∨ g + nd < q) → w2.heap[q]? = w1.heap[q]? from ⟨sj, oj, tj, pj, kj⟩)
  have l2 : h + 9 < w2.heap.size := H2.out.fc.lt
  have c4 : w2.cell? ⟨h + 9, 4, none⟩ = some (.pointer (some ⟨h + 3, 0, none⟩)) := H2.out.fc.cell (i := 4) (by omega)
  have b2 : w2.cell? ⟨h + 3, 2, none⟩ = some (.pointer (some ⟨h + 1, 0, none⟩)) := H2.out.bi.cell (i := 2) (by omega)
  clear J sj oj tj pj kj H1 C1 I1 X1
  go_wp2_with fail
  refine (resolve_any _ H2.out (by omega)).mono ?_
  rintro en w3 ⟨rfl, k3, hw3⟩
  have H3 := Lib.hid (H2.out.drewN k3)
  have J3 := Lib.hid (show Infos (w2.drewN k3) g nd _ from ⟨J2.out.1, J2.out.2⟩)
  have S3 := Lib.hid (show w1.heap.size ≤ (w2.drewN k3).heap.size ∧ (w2.drewN k3).os = w1.os ∧ (w2.drewN k3).tape = w1.tape ∧ (w2.drewN k3).output = w1.output ∧ ∀ q, q < w1.heap.size → (q ≤ g ∨ g + nd < q) → (w2.drewN k3).heap[q]? = w1.heap[q]? from S2.out)
  rw [hw3] at H3 J3 S3
  have c4 : w3.cell? ⟨h + 9, 4, none⟩ = some (.pointer (some ⟨h + 3, 0, none⟩)) := H3.out.fc.cell (i := 4) (by omega)
  have f4 := H3.out.fc.frozen 4
  have b2 : w3.cell? ⟨h + 3, 2, none⟩ = some (.pointer (some ⟨h + 1, 0, none⟩)) := H3.out.bi.cell (i := 2) (by omega)
  have p0 : w3.cell? ⟨h + 1, 0, none⟩ = some (.pointer (some ⟨h, 0, none⟩)) := H3.out.bp.cell (i := 0) (by omega)
  have H4 := Lib.hid (H3.out.setBlk (h + 1))
  have l3 : h + 9 < w3.heap.size := H3.out.fc.lt
  clear H2 J2 S2 hw3 c4
  have c4 : w3.cell? ⟨h + 9, 4, none⟩ = some (.pointer (some ⟨h + 3, 0, none⟩)) := H3.out.fc.cell (i := 4) (by omega)
  go_wp2_with fail
  try (go_still_tail 12, (by kernel_rfl); go_wp2_with fail)
  have q0 : (w3.setCell ⟨h + 9, 4, none⟩ (.pointer (some ⟨h + 1, 0, none⟩))).cell? ⟨h, 0, none⟩ = some (.slice an nn mn) := H4.out.pp.cell (i := 0) (by omega)
  have q1 : (w3.setCell ⟨h + 9, 4, none⟩ (.pointer (some ⟨h + 1, 0, none⟩))).cell? ⟨h, 1, none⟩ = some (.int .i64 po) := H4.out.pp.cell (i := 1) (by omega)
  refine (lastIndex_any h po an nn mn _ q0 q1 hp0 (by omega) (by omega)).mono ?_
  rintro en w4 ⟨rfl, k4, hw4⟩
  have H5 := Lib.hid (H4.out.drewN k4)
  have J5 := Lib.hid (show Infos ((w3.setCell ⟨h + 9, 4, none⟩ (.pointer (some ⟨h + 1, 0, none⟩))).drewN k4) g nd _ from ⟨J3.out.1.setOther (a := ⟨h + 9, 4, none⟩) (show g ≠ h + 9 by omega) _, fun i hi => (J3.out.2 i hi).setOther (a := ⟨h + 9, 4, none⟩) (show g + 1 + i ≠ h + 9 by omega) _⟩)
  have z5 : ((w3.setCell ⟨h + 9, 4, none⟩ (.pointer (some ⟨h + 1, 0, none⟩))).drewN k4).heap.size = w3.heap.size := size_setC w3 _ _
  have S5 := Lib.hid (show w1.heap.size ≤ ((w3.setCell ⟨h + 9, 4, none⟩ (.pointer (some ⟨h + 1, 0, none⟩))).drewN k4).heap.size ∧ ((w3.setCell ⟨h + 9, 4, none⟩ (.pointer (some ⟨h + 1, 0, none⟩))).drewN k4).os = w1.os ∧ ((w3.setCell ⟨h + 9, 4, none⟩ (.pointer (some ⟨h + 1, 0, none⟩))).drewN k4).tape = w1.tape ∧ ((w3.setCell ⟨h + 9, 4, none⟩ (.pointer (some ⟨h + 1, 0, none⟩))).drewN k4).output = w1.output ∧ ∀ q, q < w1.heap.size → q ≠ h + 9 → (q ≤ g ∨ g + nd < q) → ((w3.setCell ⟨h + 9, 4, none⟩ (.pointer (some ⟨h + 1, 0, none⟩))).drewN k4).heap[q]? = w1.heap[q]? from ⟨by rw [z5]; exact S3.out.1, S3.out.2.1, S3.out.2.2.1, S3.out.2.2.2.1, fun q hq hne ho => (Below.heap_setCell w3 ⟨h + 9, 4, none⟩ _ q hne).trans (S3.out.2.2.2.2 q hq ho)⟩)
  rw [hw4] at H5 J5 S5
  clear H4 H3 J3 S3 hw4 q0 q1 c4 f4 b2 p0 z5
  go_wp2_with fail
  refine (setRegTopIn_any (po + nn) _ H5.out hpt).mono ?_
  rintro en w5 ⟨rfl, hw5⟩
  have H6 := Lib.hid (H5.out.setRt (po + nn))
  have J6 := Lib.hid (show Infos (w4.setCell ⟨h + 9, 6, none⟩ (.int .i64 (po + nn))) g nd _ from ⟨J5.out.1.setOther (a := ⟨h + 9, 6, none⟩) (show g ≠ h + 9 by omega) _, fun i hi => (J5.out.2 i hi).setOther (a := ⟨h + 9, 6, none⟩) (show g + 1 + i ≠ h + 9 by omega) _⟩)
  have S6 := Lib.hid (show w1.heap.size ≤ (w4.setCell ⟨h + 9, 6, none⟩ (.int .i64 (po + nn))).heap.size ∧ (w4.setCell ⟨h + 9, 6, none⟩ (.int .i64 (po + nn))).os = w1.os ∧ (w4.setCell ⟨h + 9, 6, none⟩ (.int .i64 (po + nn))).tape = w1.tape ∧ (w4.setCell ⟨h + 9, 6, none⟩ (.int .i64 (po + nn))).output = w1.output ∧ ∀ q, q < w1.heap.size → q ≠ h + 9 → (q ≤ g ∨ g + nd < q) → (w4.setCell ⟨h + 9, 6, none⟩ (.int .i64 (po + nn))).heap[q]? = w1.heap[q]? from
    ⟨by rw [size_setC]; exact S5.out.1, S5.out.2.1, S5.out.2.2.1, S5.out.2.2.2.1, fun q hq hne ho => (Below.heap_setCell w4 ⟨h + 9, 6, none⟩ _ q hne).trans (S5.out.2.2.2.2 q hq hne ho)⟩)
  rw [hw5] at H6 J6 S6
  clear H5 J5 S5 hw5
  go_wp2_with fail
  go_ret
  obtain rfl := HR.out
  obtain rfl := HP.out
  obtain ⟨t1, t2, t3, t4, t5⟩ := S6.out
  obtain ⟨u1, u2, u3, u4, u5⟩ := KK.out
  obtain ⟨o1, o2, o3⟩ := ox.out
  obtain ⟨m1, m2, m3⟩ := oy.out
  have hh := TT.out.lt
  exact ⟨rfl, H6.out, J6.out, ⟨by omega, t2.trans u2, t3.trans u3, t4.trans u4, fun q a b c d f k => (t5 q (by omega) c k).trans (u5 q a b d f)⟩, x7, y7, p7, q7, TT.out.of_block (t5 (h + 5) hh (by omega) (.inr (by omega))), own_keep OO.out (t5 x7 o3 o2 o1), own_keep LL.out (t5 y7 m3 m2 m1)⟩
end Go.Proofs.YticnfohoddlolaaFmt
