/- The walk of FnToStringEmptyExactlyForUnknownOpcodes: the Go text returns true and writes nothing that was there. -/
import Derived.Test.YtbpkncpkgmehiaaFmtOs
import Derived.Test.YtbpkncpkgmehiaaFmtTb
import Derived.Laws.Closers25
namespace Go.Proofs.YtbpkncpkgmehiaaFmt.fnToStringEmptyExactlyForUnknownOpcodes
open Go.ChangeShapes Go.WideShapes Go.ChangeAt Go.RowKit
open Go.Extern.Stop Go.Stop Go.Extern Go.Kit
set_option linter.unusedVariables false

theorem tos_any (F : Interp) (i : Int) (w : World) (hF : F.told.answers w.tape) (hL : laidMetH Tryf.prog Rows.fnToStringEmptyExactlyForUnknownOpcodesRow.laid w) (h0 : 0 ≤ i) (h1 : i ≤ 4294967295) :
    Calls Tryf.prog 5 #[.int .u32 i] w (Told i w) := by
  by_cases hi : i < 2818572288
  · obtain ⟨b, off, hv, hb, ht⟩ := table hL
    obtain ⟨o, ho⟩ : ∃ o : Nat, i / 67108864 = (o : Int) := ⟨(i / 67108864).toNat, by omega⟩
    obtain ⟨nm, ty, hn, hnl, hty, h3⟩ := ht o (by omega)
    exact tos_walk F.told (fun r t h1 h2 => told_bytes F h1 h2) i w hF h0 hi b off o ho nm ty h3 hv hty hn hb hnl
  · refine (tos_none i w (by omega) h1).mono ?_
    rintro e w' ⟨rfl, rfl⟩
    exact ⟨ByteArray.empty, rfl, ⟨fun h => absurd h hi, fun h => absurd h (by decide)⟩, by decide, Below.refl _ _⟩

theorem zz_any (F : Interp) (i : Int) (w : World) (hF : F.told.answers w.tape) (hL : laidMetH Tryf.prog Rows.fnToStringEmptyExactlyForUnknownOpcodesRow.laid w) (h0 : 0 ≤ i) (h1 : i ≤ 4294967295) :
    Calls Tryf.prog 4 #[.int .u32 i] w (Told i w) := by
  have hF1 := Lib.hid hF
  have hL1 := Lib.hid hL
  clear hF hL
  go_enter Tryf.func4, Tryf.ntmps4
  go_wp2_with fail
  refine (tos_any F i w hF1.out hL1.out h0 h1).mono ?_
  rintro e w' ⟨s, rfl, hs, hz, hb⟩
  have hs1 := Lib.hid hs
  clear hs
  go_wp2_with fail
  go_ret
  exact ⟨s, rfl, hs1.out, hz, hb⟩

theorem walk (F : Interp) (a0 : Int) (w : World) (w0 : (Lit.int .u32 a0).wf = true) (hF : F.told.answers w.tape) (hL : laidMetH Tryf.prog Rows.fnToStringEmptyExactlyForUnknownOpcodesRow.laid w) :
    Calls Tryf.prog 3 #[.int .u32 a0] w fun e w' => e = .returned (.bool true) ∧ Below w.heap.size w w' := by
  have hr : 0 ≤ a0 ∧ a0 ≤ 4294967295 := by
    simpa [Lit.wf, IntKind.min, IntKind.max, IntKind.signed, IntKind.bits] using w0
  obtain ⟨h0, h1⟩ := hr
  have hF1 := Lib.hid hF
  have hL1 := Lib.hid hL
  clear hF hL w0
  go_enter Tryf.func3, Tryf.ntmps3
  go_wp2_with fail
  refine (zz_any F a0 w hF1.out hL1.out h0 h1).mono ?_
  rintro e w' ⟨s, rfl, hs, hz, hb⟩
  have hs1 := Lib.hid hs
  clear hs
  go_wp2_with fail
  go_ret
  refine ⟨?_, hb⟩
  show Ending.returned (Value.bool (s.toList.isEmpty == decide (2818572288 ≤ a0))) = _
  have e : s.toList.isEmpty = decide (2818572288 ≤ a0) := by
    rw [← decide_eq_emptyBytes s]
    have h2 := hs1.out
    refine decide_eq_decide.2 ⟨fun h4 => ?_, fun h4 => ?_⟩
    · by_cases hi : a0 < 2818572288
      · have h3 := h2.1 hi
        rw [h4] at h3
        exact absurd h3 (by decide)
      · omega
    · have h3 : s.size = 0 := by
        have h5 : ¬ 1 ≤ s.size := fun h => by
          have := h2.2 h
          omega
        omega
      exact ByteArray.size_eq_zero_iff.1 h3
  rw [e]
  simp
end Go.Proofs.YtbpkncpkgmehiaaFmt.fnToStringEmptyExactlyForUnknownOpcodes
