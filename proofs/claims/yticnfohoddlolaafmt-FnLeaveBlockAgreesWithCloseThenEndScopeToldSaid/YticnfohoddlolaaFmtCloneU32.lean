/- The contract of the function that copies a slice: the same elements in new memory. Condition: a length of at most 2^20. -/
import Derived.Test.YticnfohoddlolaaFmtRows2
import Derived.Laws.Entries
namespace Go.Proofs.YticnfohoddlolaaFmt
open Go.ChangeShapes Go.WideShapes Go.ChangeAt Go.RowKit
set_option linter.unusedVariables false

theorem run_store_float_cloneU32 (P : Program) (w : World) (a : Addr) (m : Mode) (k : FloatKind) (b : Nat) : (store a (.float k b) m).run P w = stored P w a (.float k b) m := run_store P w a _ m rfl
attribute [local go_sem] run_store_float_cloneU32

theorem infocloneU32 : (Tryf.prog.info? 36).map (fun i => (i.zero, i.size, i.bytes)) = some (some ((Value.int .u32) 0 : Value), 1, 4) := by kernel_rfl

theorem cloneU32_any (a : Option Addr) (len cap : Nat) (zs : List Int) (w : World) (hr : IsRow (Value.int .u32) 0 w a len cap zs) (hb : len ≤ 1048576) :
    Calls Tryf.prog 10 #[.slice a len cap] w (Copied w 36 len (fun i => (Value.int .u32) (zs.getD i 0))) := by
  obtain ⟨hz, hlc, hcm, hnil, hcell⟩ := hr
  have hnl := fun (w : World) (a : Option Addr) (n c n' c' : Nat) => Lib.run_eql_slice_nil (P := Tryf.prog) w 23 36 a n c n' c' Tryf.underlying23
  cases a with
  | none =>
    have hc := hnil rfl
    subst hc
    obtain rfl : len = 0 := by omega
    go_enter Tryf.func10, Tryf.ntmps10
    go_wp2
    go_ret
    exact ⟨none, rfl, .inl ⟨rfl, rfl⟩, Below.refl _ _⟩
  | some x =>
    have hmk := run_make_row' (P := Tryf.prog) 23 36 ((Value.int .u32) 0) 4 Tryf.underlying23 infocloneU32 rfl .i64 .i64 len (by omega) (by omega)
    clear hnil
    go_enter Tryf.func10, Tryf.ntmps10
    go_wp2
    go_loopw [4] (fun i wr => ∃ k : Nat, k ≤ len ∧ i = .int .i64 k ∧ Below w.heap.size w wr ∧ wr.rowIs w.heap.size 36 len (fun j => (Value.int .u32) (if j < k then zs.getD j 0 else 0))) (fun i _ => len - (intOf i).toNat)
    case atStart => exact ⟨0, Nat.zero_le _, rfl, (Below.refl _ _).alloc (Nat.le_refl _) _, by simpa using World.rowIs_made w ((Value.int .u32) 0) len 36⟩
    case round =>
      obtain ⟨k, hk, rfl, hbel, hrow⟩ := hrel
      by_cases hlt : k < len
      · obtain ⟨b, off, hx, hbl, hcl⟩ := hcell (by omega)
        cases hx
        have hc := (hbel.cell (p := ⟨b, off + k, none⟩) hbl).trans (hcl k hlt)
        have hd := hrow.cell hlt
        have hf := hrow.frozen k
        clear hcl hcell
        go_wp2
        go_roundw
        case rel => exact ⟨k + 1, by omega, by go_num, hbel.setCell (Nat.le_refl _) _, (hrow.set k _).congr fun j hj => row_step (Value.int .u32) 0 zs k j (by omega)⟩
        case measure => simp [intOf]; omega
      · go_wp2
        go_ret
        exact ⟨_, rfl, .inr ⟨_, rfl, Nat.le_refl _, hrow.congr (fun i hi => by rw [if_pos (by omega)])⟩, hbel⟩
end Go.Proofs.YticnfohoddlolaaFmt
