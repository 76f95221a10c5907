/- makeLocals of n005_43: the rows of debug infos in memory. -/
import Derived.Test.YticnfohoddlolaaFmtFk
namespace Go.Proofs.YticnfohoddlolaaFmt
open Go.ChangeShapes Go.WideShapes Go.ChangeAt Go.RowKit
set_option linter.unusedVariables false
set_option maxRecDepth 100000

theorem infoPD : (Tryf.prog.info? 41).map (fun i => (i.zero, i.size, i.bytes)) = some (some (Value.pointer none), 1, 8) := by kernel_rfl

theorem makeLocals_any (a : Option Addr) (n cap : Nat) (z : List Int) (w : World) (r0 : IsRow (.int .i64) 0 w a n cap z) (hn : n ≤ 65536) :
    Calls Tryf.prog 12 #[.slice a n cap] w fun e w' => ∃ g, e = .returned (.slice (some ⟨g, 0, none⟩) n n) ∧ w.heap.size ≤ g ∧ w'.rowIs g 41 n (fun i => .pointer (some ⟨g + 1 + i, 0, none⟩)) ∧ (∀ i, i < n → w'.rowIs (g + 1 + i) 40 3 (lf [.string ByteArray.empty, .int .i64 i, .int .i64 (z.getD i 0)])) ∧ Below w.heap.size w w' := by
  have hc := r0.2.2.2.2
  have hmk := run_make_row' (P := Tryf.prog) 30 41 (.pointer none) 8 Tryf.underlying30 infoPD rfl .i64 .i64 n (by omega) (by omega)
  go_enter Tryf.func12, Tryf.ntmps12
  go_wp2
  have M := World.rowIs_made w (Value.pointer none) n 41
  have bb : Below w.heap.size w (w.alloc (.cells (madeCells #[.pointer none] n) 41)) := (Below.refl w.heap.size w).alloc (Nat.le_refl _) _
  have sz : (w.alloc (.cells (madeCells #[.pointer none] n) 41)).heap.size = w.heap.size + 1 := by simp
  obtain ⟨G, hG⟩ : ∃ G, w.heap.size = G := ⟨_, rfl⟩
  obtain ⟨w1, h1⟩ : ∃ v, w.alloc (.cells (madeCells #[.pointer none] n) 41) = v := ⟨_, rfl⟩
  rw [hG] at M sz ⊢
  rw [h1] at M bb sz ⊢
  clear h1 hmk
  go_loopw [4] (fun i wr => ∃ k : Nat, k ≤ n ∧ i = .int .i64 k ∧ Hid (wr.rowIs G 41 n (fun j => .pointer (if j < k then some ⟨G + 1 + j, 0, none⟩ else none))) ∧ Hid (wr.heap.size = G + 1 + k) ∧ Hid (∀ j, j < k → wr.rowIs (G + 1 + j) 40 3 (lf [.string ByteArray.empty, .int .i64 j, .int .i64 (z.getD j 0)])) ∧ Below w.heap.size w wr) (fun i _ => n - (intOf i).toNat)
  case atStart => exact ⟨0, Nat.zero_le _, rfl, Lib.hid (M.congr fun i _ => by simp), Lib.hid (by omega), Lib.hid (fun j hj => by omega), bb⟩
  case round =>
    obtain ⟨k, hk, rfl, RK, SK, FK, hbel⟩ := hrel
    by_cases hlt : k < n
    · obtain ⟨b, off, hx, hbl, hcl⟩ := hc (by omega)
      obtain ⟨v, hv⟩ : ∃ v, z.getD k 0 = v := ⟨_, rfl⟩
      have hcs : wr.cell? ⟨b, off + k, none⟩ = some (.int .i64 v) := by rw [← hv]; exact (hbel.cell (p := ⟨b, off + k, none⟩) hbl).trans (hcl k hlt)
      have HX := Lib.hid hx
      rw [hx]
      clear hx hcl hc
      have HV := Lib.hid hv
      clear hv
      have hlt' : (k : Int) < (n : Int) := by omega
      have RA := RK.out.alloc (.cells #[.string ⟨#[]⟩, .int .i64 k, .int .i64 v] 40)
      have hd := RA.cell (i := k) hlt
      have hf := RA.frozen k
      clear RA
      go_wp2
      go_roundw
      case rel =>
        have hsz := SK.out
        refine ⟨k + 1, by omega, by go_num, Lib.hid (((RK.out.alloc _).set k _).congr fun i hi => ?_), Lib.hid (by simp; omega), Lib.hid (fun j hj => ?_), (hbel.alloc hbel.size _).setCell (p := ⟨G, k, none⟩) (show w.heap.size ≤ G by omega) _⟩
        · rw [hsz]
          by_cases e : i = k
          · subst e
            rw [if_pos rfl, if_pos (by omega)]
          · rw [if_neg e]
            by_cases l : i < k
            · rw [if_pos l, if_pos (by omega)]
            · rw [if_neg l, if_neg (by omega)]
        · by_cases l : j < k
          · exact ((FK.out j l).alloc _).setOther (a := ⟨G, k, none⟩) (show G + 1 + j ≠ G by omega) _
          · obtain rfl : j = k := by omega
            rw [HV.out]
            exact (lf_at wr [.string ⟨#[]⟩, .int .i64 j, .int .i64 v] _ _ hsz.symm).setOther (a := ⟨G, j, none⟩) (show G + 1 + j ≠ G by omega) _
      case measure => simp [intOf]; omega
    · obtain rfl : n = k := by omega
      go_wp2
      go_ret
      exact ⟨G, rfl, by omega, RK.out.congr fun i hi => by simp [hi], FK.out, hbel⟩
end Go.Proofs.YticnfohoddlolaaFmt
