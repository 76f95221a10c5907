/- The contracts of CloseUpvalues and of the readers of a function context. -/
import Derived.Test.YticnfohoddlolaaFmtFc
import Derived.StillTailTactics
namespace Go.Proofs.YticnfohoddlolaaFmt
open Go.ChangeShapes Go.WideShapes Go.ChangeAt Go.RowKit
set_option linter.unusedVariables false
set_option maxRecDepth 100000

section
variable {h : Nat} {ref : Bool} {po : Int} {an : Option Addr} {nn mn : Nat} {ai : Option Addr} {ni mi : Nat} {last : Int} {ad : Option Addr} {nd md : Nat} {blk : Nat} {rt : Int}

theorem closeNo_any (w : World) (H : FC0 w h false po an nn mn ai ni mi last ad nd md (h + 3) rt) :
    Calls Tryf.prog 15 #[.pointer (some ⟨h + 9, 0, none⟩)] w fun e w' => e = .returned (.int .i64 (-1)) ∧ w = w' := by
  have c4 : w.cell? ⟨h + 9, 4, none⟩ = some (.pointer (some ⟨h + 3, 0, none⟩)) := H.fc.cell (i := 4) (by omega)
  have b3 : w.cell? ⟨h + 3, 3, none⟩ = some (.bool false) := H.bi.cell (i := 3) (by omega)
  go_enter Tryf.func15, Tryf.ntmps15
  go_wp2
  go_ret
  exact ⟨rfl, rfl⟩

theorem lastIndex_any (q : Nat) (off : Int) (a : Option Addr) (n m : Nat) (w : World) (q0 : w.cell? ⟨q, 0, none⟩ = some (.slice a n m)) (q1 : w.cell? ⟨q, 1, none⟩ = some (.int .i64 off)) (h0 : 0 ≤ off) (h1 : off ≤ 4294967296) (hn : n ≤ 4294967296) :
    Calls Tryf.prog 32 #[.pointer (some ⟨q, 0, none⟩)] w fun e w' => e = .returned (.int .i64 (off + n)) ∧ ∃ k, w.drewN k = w' := by
  go_enter Tryf.func32, Tryf.ntmps32
  go_wp2
  go_quiet (fail)
  go_wp2
  go_ret
  exact ⟨rfl, _, rfl⟩

theorem AddKept.of_drewN {c k : Nat} {r0 r1 : Option Nat} {w w' : World} (h : AddKept c r0 r1 (w.drewN k) w') : AddKept c r0 r1 w w' := ⟨h.os, h.tape, h.output, h.size, h.block⟩

theorem closeYes_any (B n pc : Nat) (a0 a1 : Option Addr) (c0 c1 : Nat) (xs ys : List Value) (w : World) (H : FC0 w h true po an nn mn ai ni mi last ad nd md (h + 3) rt) (hp0 : 0 ≤ po) (hp1 : po ≤ 1073741824) (hnn : nn ≤ 65536)
    (hs : w.rowIs (h + 5) 63 3 (st3 (.slice a0 n c0) (.slice a1 n c1) (.int .i64 pc)))
    (h0 : w.ownsRow B 36 1 (.slice a0 n c0) n xs) (h1 : w.ownsRow B 3 1 (.slice a1 n c1) n ys) (hn : n ≤ 1048576) (hp : pc ≤ n) (hB : B ≤ w.heap.size) :
    Calls Tryf.prog 15 #[.pointer (some ⟨h + 9, 0, none⟩)] w fun e w' => e = .returned (.int .i64 (po + nn)) ∧
      Added B (h + 5) (nAt n pc) (.slice a0 n c0) (.slice a1 n c1) (putAt xs n pc (.int .u32 (createv 38 (po + nn) 0 0))) (putAt ys n pc (.int .i64 last)) (pc + 1) w (.returned (.tuple #[])) w' := by
  have c4 : w.cell? ⟨h + 9, 4, none⟩ = some (.pointer (some ⟨h + 3, 0, none⟩)) := H.fc.cell (i := 4) (by omega)
  have c1' : w.cell? ⟨h + 9, 1, none⟩ = some (.pointer (some ⟨h + 5, 0, none⟩)) := H.fc.cell (i := 1) (by omega)
  have b3 : w.cell? ⟨h + 3, 3, none⟩ = some (.bool true) := H.bi.cell (i := 3) (by omega)
  have b2 : w.cell? ⟨h + 3, 2, none⟩ = some (.pointer (some ⟨h + 1, 0, none⟩)) := H.bi.cell (i := 2) (by omega)
  have b5 : w.cell? ⟨h + 3, 5, none⟩ = some (.int .i64 last) := H.bi.cell (i := 5) (by omega)
  have p0 : w.cell? ⟨h + 1, 0, none⟩ = some (.pointer (some ⟨h, 0, none⟩)) := H.bp.cell (i := 0) (by omega)
  have q0 : w.cell? ⟨h, 0, none⟩ = some (.slice an nn mn) := H.pp.cell (i := 0) (by omega)
  have q1 : w.cell? ⟨h, 1, none⟩ = some (.int .i64 po) := H.pp.cell (i := 1) (by omega)
  go_enter Tryf.func15, Tryf.ntmps15
  go_wp2_with (first | (go_at_call 28; go_in))
  refine (lastIndex_any h po an nn mn _ q0 q1 hp0 (by omega) (by omega)).mono ?_
  rintro e w1 ⟨rfl, k, hw⟩
  have c4 : w1.cell? ⟨h + 9, 4, none⟩ = some (.pointer (some ⟨h + 3, 0, none⟩)) := by rw [← hw]; exact c4
  have c1' : w1.cell? ⟨h + 9, 1, none⟩ = some (.pointer (some ⟨h + 5, 0, none⟩)) := by rw [← hw]; exact c1'
  have b5 : w1.cell? ⟨h + 3, 5, none⟩ = some (.int .i64 last) := by rw [← hw]; exact b5
  have hs1 := (show (w.drewN k).rowIs _ _ _ _ from hs)
  have h01 := (show (w.drewN k).ownsRow _ _ _ _ _ _ from h0)
  have h11 := (show (w.drewN k).ownsRow _ _ _ _ _ _ from h1)
  have hB1 := (show B ≤ (w.drewN k).heap.size from hB)
  have hk := fun (W : World) (hh : AddKept (h + 5) (Value.slice a0 n c0).ownBlock (Value.slice a1 n c1).ownBlock (w.drewN k) W) => hh.of_drewN
  rw [hw] at hs1 h01 h11 hB1 hk
  have HK := Lib.hid hk
  clear hw hk
  go_wp2_with fail
  go_still_tail 12, (by kernel_rfl)
  go_wp2_with fail
  refine (addABC_any B (h + 5) n pc a0 a1 c0 c1 xs ys 38 (po + nn) 0 0 last w1.drew hs1 h01 h11 hn hp hB1).mono ?_
  rintro e w2 ⟨rfl, g0, g1, p0, p1, k0, k1, k2, k3⟩
  have K0 := Lib.hid k0
  have K1 := Lib.hid k1
  have K2 := Lib.hid k2
  clear k0 k1 k2
  go_wp2_with fail
  go_ret
  exact ⟨rfl, rfl, g0, g1, p0, p1, K0.out, K1.out, K2.out, HK.out _ ⟨k3.os, k3.tape, k3.output, k3.size, k3.block⟩⟩
end
end Go.Proofs.YticnfohoddlolaaFmt
