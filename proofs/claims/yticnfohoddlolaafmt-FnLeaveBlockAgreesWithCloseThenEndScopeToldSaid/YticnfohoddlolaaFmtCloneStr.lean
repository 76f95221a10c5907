/- The contract of the function that copies a slice: the same elements in new memory. Condition: a length of at most 2^20. -/
import Derived.Test.YticnfohoddlolaaFmtRows2
import Derived.Laws.Entries
namespace Go.Proofs.YticnfohoddlolaaFmt
open Go.ChangeShapes Go.WideShapes Go.ChangeAt Go.RowKit
set_option linter.unusedVariables false

theorem run_store_float_cloneStr (P : Program) (w : World) (a : Addr) (m : Mode) (k : FloatKind) (b : Nat) : (store a (.float k b) m).run P w = stored P w a (.float k b) m := run_store P w a _ m rfl
attribute [local go_sem] run_store_float_cloneStr

theorem infocloneStr : (Tryf.prog.info? 9).map (fun i => (i.zero, i.size, i.bytes)) = some (some (Value.string ByteArray.empty : Value), 1, 16) := by kernel_rfl

theorem cloneStr_any (a : Option Addr) (len cap : Nat) (zs : List ByteArray) (w : World) (hr : IsRow Value.string ByteArray.empty w a len cap zs) (hb : len ≤ 1048576) :
    Calls Tryf.prog 9 #[.slice a len cap] w (Copied w 9 len (fun i => Value.string (zs.getD i ByteArray.empty))) := by
  obtain ⟨hz, hlc, hcm, hnil, hcell⟩ := hr
  have hnl := fun (w : World) (a : Option Addr) (n c n' c' : Nat) => Lib.run_eql_slice_nil (P := Tryf.prog) w 22 9 a n c n' c' Tryf.underlying22
  cases a with
  | none =>
    have hc := hnil rfl
    subst hc
    obtain rfl : len = 0 := by omega
    go_enter Tryf.func9, Tryf.ntmps9
    go_wp2
    go_ret
    exact ⟨none, rfl, .inl ⟨rfl, rfl⟩, Below.refl _ _⟩
  | some x =>
    have hmk := run_make_row' (P := Tryf.prog) 22 9 (Value.string ByteArray.empty) 16 Tryf.underlying22 infocloneStr rfl .i64 .i64 len (by omega) (by omega)
    clear hnil
    go_enter Tryf.func9, Tryf.ntmps9
    go_wp2
    go_loopw [4] (fun i wr => ∃ k : Nat, k ≤ len ∧ i = .int .i64 k ∧ Below w.heap.size w wr ∧ wr.rowIs w.heap.size 9 len (fun j => Value.string (if j < k then zs.getD j ByteArray.empty else ByteArray.empty))) (fun i _ => len - (intOf i).toNat)
    case atStart => exact ⟨0, Nat.zero_le _, rfl, (Below.refl _ _).alloc (Nat.le_refl _) _, by simpa using World.rowIs_made w (Value.string ByteArray.empty) len 9⟩
    case round =>
      obtain ⟨k, hk, rfl, hbel, hrow⟩ := hrel
      by_cases hlt : k < len
      · obtain ⟨b, off, hx, hbl, hcl⟩ := hcell (by omega)
        cases hx
        have hc := (hbel.cell (p := ⟨b, off + k, none⟩) hbl).trans (hcl k hlt)
        have hd := hrow.cell hlt
        have hf := hrow.frozen k
        clear hcl hcell
        go_wp2
        go_roundw
        case rel => exact ⟨k + 1, by omega, by go_num, hbel.setCell (Nat.le_refl _) _, (hrow.set k _).congr fun j hj => row_step Value.string ByteArray.empty zs k j (by omega)⟩
        case measure => simp [intOf]; omega
      · go_wp2
        go_ret
        exact ⟨_, rfl, .inr ⟨_, rfl, Nat.le_refl _, hrow.congr (fun i hi => by rw [if_pos (by omega)])⟩, hbel⟩
end Go.Proofs.YticnfohoddlolaaFmt
