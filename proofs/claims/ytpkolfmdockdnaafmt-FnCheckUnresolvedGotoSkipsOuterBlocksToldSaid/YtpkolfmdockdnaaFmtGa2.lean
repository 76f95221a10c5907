/- AddUnresolvedGoto (n005_54). -/
import Derived.Test.YtpkolfmdockdnaaFmtGo
import Derived.StillTailTactics
namespace Go.Proofs.YtpkolfmdockdnaaFmt
open Go.ChangeShapes Go.WideShapes Go.ChangeAt Go.RowKit
open Go.Maps (Keyed)
set_option linter.unusedVariables false
set_option maxRecDepth 100000

theorem add_any (F M n p : Nat) (q : Nat → Nat) (w : World) (c9 : w.cell? ⟨F, 9, none⟩ = some (.int .i64 n)) (f9 : w.frozen? ⟨F, 9, none⟩ = false) (c10 : w.cell? ⟨F, 10, none⟩ = some (.map (some M))) (g : Gm w M n q) (hn : n ≤ 1048575) :
    Calls Tryf.prog 6 #[.pointer (some ⟨F, 0, none⟩), .pointer (some ⟨p, 0, none⟩)] w fun e w' => e = .returned (.tuple #[]) ∧ Gm w' M (n + 1) (fun i => if i = n then p else q i) ∧ w'.cell? ⟨F, 9, none⟩ = some (.int .i64 ((n : Int) + 1)) ∧ w.heap.size ≤ w'.heap.size ∧ (∀ B, B ≤ F → B ≤ M → Below B w w') ∧ (∀ k, k < w.heap.size → k ≠ M → k ≠ F → w'.heap[k]? = w.heap[k]?) ∧ (∀ o, o ≠ 9 → w'.cell? ⟨F, o, none⟩ = w.cell? ⟨F, o, none⟩) ∧ (∀ o, w'.frozen? ⟨F, o, none⟩ = w.frozen? ⟨F, o, none⟩) := by
  have GG := Lib.hid g
  clear g
  go_enter Tryf.func6, Tryf.ntmps6
  go_wp2_with fail
  go_still_tail 9, (by kernel_rfl)
  obtain ⟨D, ho, h2, h3, h4⟩ := GG.out
  refine wpList_mapUpdate_own _ rfl _ _ _ _ rfl _ _ keyed Tryf.underlying30 rdP M n D rfl ho (by unfold maxLen; omega) _ _ _ rfl rfl (Maps.keyOf_int_mk Tryf.underlying3 (key_wf (by omega))) (.lit (.int .i64 (p : Int))) [] rfl ?_
  intro w2 r1 r2
  have hFM : F ≠ M := by
    rintro rfl
    obtain ⟨es, ck, hm, _⟩ := ho
    simp [World.cell?, hm] at c9
  have G2 := Lib.hid (Gm.put p r1 ho h2 h3 h4 (by omega))
  have R2 := Lib.hid r2
  have hMl := GG.out.lt
  have hFl := cell_block_lt c9
  clear ho h2 h3 h4 r1 GG
  have e9 : w2.heap[F]? = w.heap[F]? := by
    have hl := cell_block_lt c9
    exact r2.block F hl (fun e => hFM (by injection e))
  have d9 : w2.cell? ⟨F, 9, none⟩ = some (.int .i64 n) := (World.cell?_of_block (a := ⟨F, 9, none⟩) e9).trans c9
  have z9 : w2.frozen? ⟨F, 9, none⟩ = false := (World.frozen?_of_block (a := ⟨F, 9, none⟩) e9).trans f9
  clear r2
  go_wp2_with fail
  go_end0
  refine ⟨rfl, G2.out.keep (Below.heap_setCell _ _ _ _ (fun e => hFM e.symm)), World.cell?_setCell_same _ _ _ d9, by simpa using R2.out.size, fun B h1 h2 => ?_, fun k hk h1 h2 => (Below.heap_setCell _ _ _ _ h2).trans (R2.out.block k hk (fun e => h1 (by injection e))), fun o ho => ?_, fun o => ?_⟩
  · have hl : F < w.heap.size := hFl
    exact ((Below.refl B w).drew.grown R2.out (by show B ≤ w.heap.size; omega) (fun k e => by injection e with e; omega)).setCell (p := ⟨F, 9, none⟩) h1 _
  · rw [World.cell?_setCell_other _ _ _ _ (fun e => ho (congrArg Addr.off e).symm)]
    exact World.cell?_of_block (a := ⟨F, o, none⟩) e9
  · rw [World.frozen?_setCell]
    exact World.frozen?_of_block (a := ⟨F, o, none⟩) e9
end Go.Proofs.YtpkolfmdockdnaaFmt
