/- The contract of the function that compares two slices, where they hold the same: it says true. -/
import Derived.Test.YtgmihjpfnphoiaaRows2
namespace Go.Proofs.Ytgmihjpfnphoiaa
open Go.ChangeShapes Go.WideShapes Go.ChangeAt Go.RowKit
set_option linter.unusedVariables false

theorem eqU32_same (a1 a2 : Option Addr) (len cap1 cap2 : Nat) (zs : List Int) (w : World) (h1 : IsRow (Value.int .u32) 0 w a1 len cap1 zs) (h2 : IsRow (Value.int .u32) 0 w a2 len cap2 zs) (hb : len ≤ 1048576) :
    Calls Try.prog 18 #[.slice a1 len cap1, .slice a2 len cap2] w fun e w' => e = .returned (.bool true) ∧ Below w.heap.size w w' := by
  obtain ⟨hz, hlc1, hcm1, hnil1, hcell1⟩ := h1
  obtain ⟨_, hlc2, hcm2, hnil2, hcell2⟩ := h2
  clear hnil1 hnil2
  go_enter Try.func18, Try.ntmps18
  go_wp2
  go_loopw [5] (fun i wr => ∃ k : Nat, k ≤ len ∧ i = .int .i64 k ∧ Below w.heap.size w wr) (fun i _ => len - (intOf i).toNat)
  case atStart => exact ⟨0, Nat.zero_le _, rfl, Below.refl _ _⟩
  case round =>
    obtain ⟨k, hk, rfl, hbel⟩ := hrel
    by_cases hlt : k < len
    · obtain ⟨b1, off1, hx1, hbl1, hcl1⟩ := hcell1 (by omega)
      obtain ⟨b2, off2, hx2, hbl2, hcl2⟩ := hcell2 (by omega)
      subst hx1
      subst hx2
      have hc1 := (hbel.cell (p := ⟨b1, off1 + k, none⟩) hbl1).trans (hcl1 k hlt)
      have hc2 := (hbel.cell (p := ⟨b2, off2 + k, none⟩) hbl2).trans (hcl2 k hlt)
      have hlt' : (k : Int) < (len : Int) := by omega
      clear hcl1 hcl2 hcell1 hcell2
      go_wp2
      go_quiet (fail)
      go_wp2
      go_roundw
      case rel => exact ⟨k + 1, by omega, by go_num, below_drewN hbel _⟩
      case measure => simp [intOf]; omega
    · go_wp2
      go_ret
      exact ⟨rfl, hbel⟩
end Go.Proofs.Ytgmihjpfnphoiaa
