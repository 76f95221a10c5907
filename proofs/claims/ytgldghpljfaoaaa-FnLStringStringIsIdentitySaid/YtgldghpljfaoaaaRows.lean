/-
  No cell of these rows narrows 'for every input' (looked for: loops, veiled, ifaces, maps, wideKeys, modest, calm, conditions, laid).
  DERIVED. THE GIVEN ROWS OF THIS SEAT. 9 by the template 'for every input the law returns true; each argument reads behind the call as it read before'; 0 by the template 'total and deterministic' (their statements: YtgldghpljfaoaaaTotals.lean).
  GIVEN WITH THE SEED: the statements are not yours to turn. If you find one false, say at which input.
  Laid BY PROGRAM, IN A SANDBOX (cutbox-rows.mjs): the forced cells as the released guide's own fill.sh prints them over the translation 16b143e9981bfc00… (all of the seat's roots in one cut). By AI agents, Wed Nov 11 2026. No macro, syntax, notation, axiom, sorry.
-/
import Derived.Test.YtgldghpljfaoaaaChecked
import GoSem.Claim
import GoSem.ClaimJoined
import GoSem.ClaimMapViews
import Derived.JoinedTies
import Derived.KernelRfl
namespace Go.Proofs.Ytgldghpljfaoaaa
/- THE CELL 'sum', in the pinned program and in every row, IS THE sha256 OF THE DUMP (.gsa) THAT YtgldghpljfaoaaaProg.lean LOADS. Nothing in Lean hashes anything: it is a label: what it is worth is what the hold of that sum in a sandbox is worth. -/
noncomputable def Try.pinned : Pinned := { name := "ytgldghpljfaoaaa", sum := "16b143e9981bfc00781e264bf5d65fd126c9d98040aaca82f3577b507dddd8bb", checked := Try.checked }
namespace Rows
def none {H : Type} : Left H := { results := [], args := [] }

/-- 'n005_42.FnShouldmoveIffSaveregDiffers': WHATEVER THE INPUT: true; the input reads as it did. -/
def fnShouldmoveIffSaveregDiffersSpec : ChangeSpec := { name := "fnShouldmoveIffSaveregDiffers", fn := fun _ => fun
  | [d1, d2, d3, d4] => { results := [.lit (.bool true)], args := [d1, d2, d3, d4] }
  | _ => none }
def fnShouldmoveIffSaveregDiffersRow : OpenClaim := { program := "ytgldghpljfaoaaa", sum := "16b143e9981bfc00781e264bf5d65fd126c9d98040aaca82f3577b507dddd8bb", func := "github.com/yuin/gopher-lua/n005_42.FnShouldmoveIffSaveregDiffers", spec := "fnShouldmoveIffSaveregDiffers", apart := false }
def FnShouldmoveIffSaveregDiffersSaid : Prop := fnShouldmoveIffSaveregDiffersRow.holds Try.pinned (OpenSpec.ofChange fnShouldmoveIffSaveregDiffersSpec)

/-- ITS FALSE NEIGHBOUR: 'it returns false'. Refute it at one input. -/
def fnShouldmoveIffSaveregDiffersWrong : ChangeSpec := { name := "fnShouldmoveIffSaveregDiffers", fn := fun _ => fun
  | [d1, d2, d3, d4] => { results := [.lit (.bool false)], args := [d1, d2, d3, d4] }
  | _ => none }
def FnShouldmoveIffSaveregDiffersWrongFalsely : Prop := fnShouldmoveIffSaveregDiffersRow.holds Try.pinned (OpenSpec.ofChange fnShouldmoveIffSaveregDiffersWrong)

/-- 'n005_42.FnSlineIsTheStartLine': WHATEVER THE INPUT: true; the input reads as it did. -/
def fnSlineIsTheStartLineSpec : ChangeSpec := { name := "fnSlineIsTheStartLine", fn := fun _ => fun
  | [d1, d2] => { results := [.lit (.bool true)], args := [d1, d2] }
  | _ => none }
def fnSlineIsTheStartLineRow : OpenClaim := { program := "ytgldghpljfaoaaa", sum := "16b143e9981bfc00781e264bf5d65fd126c9d98040aaca82f3577b507dddd8bb", func := "github.com/yuin/gopher-lua/n005_42.FnSlineIsTheStartLine", spec := "fnSlineIsTheStartLine", unfollowed := true, recurses := true, apart := false }
def FnSlineIsTheStartLineSaid : Prop := fnSlineIsTheStartLineRow.holds Try.pinned (OpenSpec.ofChange fnSlineIsTheStartLineSpec)

/-- ITS FALSE NEIGHBOUR: 'it returns false'. Refute it at one input. -/
def fnSlineIsTheStartLineWrong : ChangeSpec := { name := "fnSlineIsTheStartLine", fn := fun _ => fun
  | [d1, d2] => { results := [.lit (.bool false)], args := [d1, d2] }
  | _ => none }
def FnSlineIsTheStartLineWrongFalsely : Prop := fnSlineIsTheStartLineRow.holds Try.pinned (OpenSpec.ofChange fnSlineIsTheStartLineWrong)

/-- 'n005_42.FnElineFallsBackToSline': WHATEVER THE INPUT: true; the input reads as it did. -/
def fnElineFallsBackToSlineSpec : ChangeSpec := { name := "fnElineFallsBackToSline", fn := fun _ => fun
  | [d1, d2] => { results := [.lit (.bool true)], args := [d1, d2] }
  | _ => none }
def fnElineFallsBackToSlineRow : OpenClaim := { program := "ytgldghpljfaoaaa", sum := "16b143e9981bfc00781e264bf5d65fd126c9d98040aaca82f3577b507dddd8bb", func := "github.com/yuin/gopher-lua/n005_42.FnElineFallsBackToSline", spec := "fnElineFallsBackToSline", unfollowed := true, recurses := true, apart := false }
def FnElineFallsBackToSlineSaid : Prop := fnElineFallsBackToSlineRow.holds Try.pinned (OpenSpec.ofChange fnElineFallsBackToSlineSpec)

/-- ITS FALSE NEIGHBOUR: 'it returns false'. Refute it at one input. -/
def fnElineFallsBackToSlineWrong : ChangeSpec := { name := "fnElineFallsBackToSline", fn := fun _ => fun
  | [d1, d2] => { results := [.lit (.bool false)], args := [d1, d2] }
  | _ => none }
def FnElineFallsBackToSlineWrongFalsely : Prop := fnElineFallsBackToSlineRow.holds Try.pinned (OpenSpec.ofChange fnElineFallsBackToSlineWrong)

/-- 'n005_53.FnLBoolStringParsesBack': WHATEVER THE INPUT: true; the input reads as it did. -/
def fnLBoolStringParsesBackSpec : ChangeSpec := { name := "fnLBoolStringParsesBack", fn := fun _ => fun
  | [d1, d2] => { results := [.lit (.bool true)], args := [d1, d2] }
  | _ => none }
def fnLBoolStringParsesBackRow : OpenClaim := { program := "ytgldghpljfaoaaa", sum := "16b143e9981bfc00781e264bf5d65fd126c9d98040aaca82f3577b507dddd8bb", func := "github.com/yuin/gopher-lua/n005_53.FnLBoolStringParsesBack", spec := "fnLBoolStringParsesBack", apart := false }
def FnLBoolStringParsesBackSaid : Prop := fnLBoolStringParsesBackRow.holds Try.pinned (OpenSpec.ofChange fnLBoolStringParsesBackSpec)

/-- ITS FALSE NEIGHBOUR: 'it returns false'. Refute it at one input. -/
def fnLBoolStringParsesBackWrong : ChangeSpec := { name := "fnLBoolStringParsesBack", fn := fun _ => fun
  | [d1, d2] => { results := [.lit (.bool false)], args := [d1, d2] }
  | _ => none }
def FnLBoolStringParsesBackWrongFalsely : Prop := fnLBoolStringParsesBackRow.holds Try.pinned (OpenSpec.ofChange fnLBoolStringParsesBackWrong)

/-- 'n005_53.FnLBoolTypeDistinctFromString': WHATEVER THE INPUT: true; the input reads as it did. -/
def fnLBoolTypeDistinctFromStringSpec : ChangeSpec := { name := "fnLBoolTypeDistinctFromString", fn := fun _ => fun
  | [d1, d2] => { results := [.lit (.bool true)], args := [d1, d2] }
  | _ => none }
def fnLBoolTypeDistinctFromStringRow : OpenClaim := { program := "ytgldghpljfaoaaa", sum := "16b143e9981bfc00781e264bf5d65fd126c9d98040aaca82f3577b507dddd8bb", func := "github.com/yuin/gopher-lua/n005_53.FnLBoolTypeDistinctFromString", spec := "fnLBoolTypeDistinctFromString", apart := false }
def FnLBoolTypeDistinctFromStringSaid : Prop := fnLBoolTypeDistinctFromStringRow.holds Try.pinned (OpenSpec.ofChange fnLBoolTypeDistinctFromStringSpec)

/-- ITS FALSE NEIGHBOUR: 'it returns false'. Refute it at one input. -/
def fnLBoolTypeDistinctFromStringWrong : ChangeSpec := { name := "fnLBoolTypeDistinctFromString", fn := fun _ => fun
  | [d1, d2] => { results := [.lit (.bool false)], args := [d1, d2] }
  | _ => none }
def FnLBoolTypeDistinctFromStringWrongFalsely : Prop := fnLBoolTypeDistinctFromStringRow.holds Try.pinned (OpenSpec.ofChange fnLBoolTypeDistinctFromStringWrong)

/-- 'n005_53.FnLStringTypeIndependentOfContent': WHATEVER THE INPUT: true; the input reads as it did. -/
def fnLStringTypeIndependentOfContentSpec : ChangeSpec := { name := "fnLStringTypeIndependentOfContent", fn := fun _ => fun
  | [d1, d2] => { results := [.lit (.bool true)], args := [d1, d2] }
  | _ => none }
def fnLStringTypeIndependentOfContentRow : OpenClaim := { program := "ytgldghpljfaoaaa", sum := "16b143e9981bfc00781e264bf5d65fd126c9d98040aaca82f3577b507dddd8bb", func := "github.com/yuin/gopher-lua/n005_53.FnLStringTypeIndependentOfContent", spec := "fnLStringTypeIndependentOfContent", apart := false }
def FnLStringTypeIndependentOfContentSaid : Prop := fnLStringTypeIndependentOfContentRow.holds Try.pinned (OpenSpec.ofChange fnLStringTypeIndependentOfContentSpec)

/-- ITS FALSE NEIGHBOUR: 'it returns false'. Refute it at one input. -/
def fnLStringTypeIndependentOfContentWrong : ChangeSpec := { name := "fnLStringTypeIndependentOfContent", fn := fun _ => fun
  | [d1, d2] => { results := [.lit (.bool false)], args := [d1, d2] }
  | _ => none }
def FnLStringTypeIndependentOfContentWrongFalsely : Prop := fnLStringTypeIndependentOfContentRow.holds Try.pinned (OpenSpec.ofChange fnLStringTypeIndependentOfContentWrong)

/-- 'n005_53.FnLStringStringConcatInjective': WHATEVER THE INPUT: true; the input reads as it did. -/
def fnLStringStringConcatInjectiveSpec : ChangeSpec := { name := "fnLStringStringConcatInjective", fn := fun _ => fun
  | [d1, d2] => { results := [.lit (.bool true)], args := [d1, d2] }
  | _ => none }
def fnLStringStringConcatInjectiveRow : OpenClaim := { program := "ytgldghpljfaoaaa", sum := "16b143e9981bfc00781e264bf5d65fd126c9d98040aaca82f3577b507dddd8bb", func := "github.com/yuin/gopher-lua/n005_53.FnLStringStringConcatInjective", spec := "fnLStringStringConcatInjective", apart := false }
def FnLStringStringConcatInjectiveSaid : Prop := fnLStringStringConcatInjectiveRow.holds Try.pinned (OpenSpec.ofChange fnLStringStringConcatInjectiveSpec)

/-- ITS FALSE NEIGHBOUR: 'it returns false'. Refute it at one input. -/
def fnLStringStringConcatInjectiveWrong : ChangeSpec := { name := "fnLStringStringConcatInjective", fn := fun _ => fun
  | [d1, d2] => { results := [.lit (.bool false)], args := [d1, d2] }
  | _ => none }
def FnLStringStringConcatInjectiveWrongFalsely : Prop := fnLStringStringConcatInjectiveRow.holds Try.pinned (OpenSpec.ofChange fnLStringStringConcatInjectiveWrong)

/-- 'n005_42.FnLocalContextMovesExactlyOffItsRegister': WHATEVER THE INPUT: true; the input reads as it did. -/
def fnLocalContextMovesExactlyOffItsRegisterSpec : ChangeSpec := { name := "fnLocalContextMovesExactlyOffItsRegister", fn := fun _ => fun
  | [d1, d2, d3, d4] => { results := [.lit (.bool true)], args := [d1, d2, d3, d4] }
  | _ => none }
def fnLocalContextMovesExactlyOffItsRegisterRow : OpenClaim := { program := "ytgldghpljfaoaaa", sum := "16b143e9981bfc00781e264bf5d65fd126c9d98040aaca82f3577b507dddd8bb", func := "github.com/yuin/gopher-lua/n005_42.FnLocalContextMovesExactlyOffItsRegister", spec := "fnLocalContextMovesExactlyOffItsRegister", apart := false }
def FnLocalContextMovesExactlyOffItsRegisterSaid : Prop := fnLocalContextMovesExactlyOffItsRegisterRow.holds Try.pinned (OpenSpec.ofChange fnLocalContextMovesExactlyOffItsRegisterSpec)

/-- ITS FALSE NEIGHBOUR: 'it returns false'. Refute it at one input. -/
def fnLocalContextMovesExactlyOffItsRegisterWrong : ChangeSpec := { name := "fnLocalContextMovesExactlyOffItsRegister", fn := fun _ => fun
  | [d1, d2, d3, d4] => { results := [.lit (.bool false)], args := [d1, d2, d3, d4] }
  | _ => none }
def FnLocalContextMovesExactlyOffItsRegisterWrongFalsely : Prop := fnLocalContextMovesExactlyOffItsRegisterRow.holds Try.pinned (OpenSpec.ofChange fnLocalContextMovesExactlyOffItsRegisterWrong)

/-- 'n005_53.FnLStringStringIsIdentity': WHATEVER THE INPUT: true; the input reads as it did. -/
def fnLStringStringIsIdentitySpec : ChangeSpec := { name := "fnLStringStringIsIdentity", fn := fun _ => fun
  | [d] => { results := [.lit (.bool true)], args := [d] }
  | _ => none }
def fnLStringStringIsIdentityRow : OpenClaim := { program := "ytgldghpljfaoaaa", sum := "16b143e9981bfc00781e264bf5d65fd126c9d98040aaca82f3577b507dddd8bb", func := "github.com/yuin/gopher-lua/n005_53.FnLStringStringIsIdentity", spec := "fnLStringStringIsIdentity", apart := false }
def FnLStringStringIsIdentitySaid : Prop := fnLStringStringIsIdentityRow.holds Try.pinned (OpenSpec.ofChange fnLStringStringIsIdentitySpec)

/-- ITS FALSE NEIGHBOUR: 'it returns false'. Refute it at one input. -/
def fnLStringStringIsIdentityWrong : ChangeSpec := { name := "fnLStringStringIsIdentity", fn := fun _ => fun
  | [d] => { results := [.lit (.bool false)], args := [d] }
  | _ => none }
def FnLStringStringIsIdentityWrongFalsely : Prop := fnLStringStringIsIdentityRow.holds Try.pinned (OpenSpec.ofChange fnLStringStringIsIdentityWrong)

/- THE SECOND FORM. 'bulk': how many values and letters a reading holds, each counted each time it is reached (what is shared counts as often as it is met; a slice's spare places count too). A statement '..UptoSaid' is the law's where the arguments, and the package variables that the reading takes, are together of bulk at most 1048576: NARROWER than '..Said'. Prove '..Said' where nothing that the law and all that it calls make is longer than what came in: it says more and counts as full. Else prove '..UptoSaid'. A law counts once. -/
mutual
def uptoBulk {H : Type} : DataW H → Nat
  | .lit (.string bytes) => bytes.length + 1
  | .lit _ => 1
  | .nil => 1
  | .ptr d => uptoBulk d + 1
  | .slice elems spare => uptoBulkAll elems + uptoBulkAll spare + 1
  | .agg parts => uptoBulkAll parts + 1
  | .iface _ d => uptoBulk d + 1
  | .map entries => uptoBulkEntries entries + 1
  | .held _ => 1
def uptoBulkAll {H : Type} : List (DataW H) → Nat
  | [] => 0
  | d :: r => uptoBulk d + uptoBulkAll r
def uptoBulkEntries {H : Type} : List (Lit × DataW H) → Nat
  | [] => 0
  | x :: r => uptoBulkEntry x + uptoBulkEntries r
def uptoBulkEntry {H : Type} : Lit × DataW H → Nat
  | (.string bytes, d) => bytes.length + uptoBulk d + 1
  | (_, d) => uptoBulk d + 1
 end
def uptoSmall : (H : Type) → List (DataW H) → Bool := fun _ ds => decide (uptoBulkAll ds ≤ 1048576)
def OpenSpec.upto (s : _root_.Go.ChangeSpec) : _root_.Go.OpenSpec := { _root_.Go.OpenSpec.ofChange s with cond := some uptoSmall }

/-- 'n005_42.FnShouldmoveIffSaveregDiffers', WHERE WHAT IT READS IS OF BULK AT MOST 1048576: true; the input reads as it did. -/
def fnShouldmoveIffSaveregDiffersUptoRow : OpenClaim := { program := "ytgldghpljfaoaaa", sum := "16b143e9981bfc00781e264bf5d65fd126c9d98040aaca82f3577b507dddd8bb", func := "github.com/yuin/gopher-lua/n005_42.FnShouldmoveIffSaveregDiffers", spec := "fnShouldmoveIffSaveregDiffers", apart := false, narrowed := true }
def FnShouldmoveIffSaveregDiffersUptoSaid : Prop := fnShouldmoveIffSaveregDiffersUptoRow.holds Try.pinned (OpenSpec.upto fnShouldmoveIffSaveregDiffersSpec)

/-- 'n005_42.FnSlineIsTheStartLine', WHERE WHAT IT READS IS OF BULK AT MOST 1048576: true; the input reads as it did. -/
def fnSlineIsTheStartLineUptoRow : OpenClaim := { program := "ytgldghpljfaoaaa", sum := "16b143e9981bfc00781e264bf5d65fd126c9d98040aaca82f3577b507dddd8bb", func := "github.com/yuin/gopher-lua/n005_42.FnSlineIsTheStartLine", spec := "fnSlineIsTheStartLine", unfollowed := true, recurses := true, apart := false, narrowed := true }
def FnSlineIsTheStartLineUptoSaid : Prop := fnSlineIsTheStartLineUptoRow.holds Try.pinned (OpenSpec.upto fnSlineIsTheStartLineSpec)

/-- 'n005_42.FnElineFallsBackToSline', WHERE WHAT IT READS IS OF BULK AT MOST 1048576: true; the input reads as it did. -/
def fnElineFallsBackToSlineUptoRow : OpenClaim := { program := "ytgldghpljfaoaaa", sum := "16b143e9981bfc00781e264bf5d65fd126c9d98040aaca82f3577b507dddd8bb", func := "github.com/yuin/gopher-lua/n005_42.FnElineFallsBackToSline", spec := "fnElineFallsBackToSline", unfollowed := true, recurses := true, apart := false, narrowed := true }
def FnElineFallsBackToSlineUptoSaid : Prop := fnElineFallsBackToSlineUptoRow.holds Try.pinned (OpenSpec.upto fnElineFallsBackToSlineSpec)

/-- 'n005_53.FnLBoolStringParsesBack', WHERE WHAT IT READS IS OF BULK AT MOST 1048576: true; the input reads as it did. -/
def fnLBoolStringParsesBackUptoRow : OpenClaim := { program := "ytgldghpljfaoaaa", sum := "16b143e9981bfc00781e264bf5d65fd126c9d98040aaca82f3577b507dddd8bb", func := "github.com/yuin/gopher-lua/n005_53.FnLBoolStringParsesBack", spec := "fnLBoolStringParsesBack", apart := false, narrowed := true }
def FnLBoolStringParsesBackUptoSaid : Prop := fnLBoolStringParsesBackUptoRow.holds Try.pinned (OpenSpec.upto fnLBoolStringParsesBackSpec)

/-- 'n005_53.FnLBoolTypeDistinctFromString', WHERE WHAT IT READS IS OF BULK AT MOST 1048576: true; the input reads as it did. -/
def fnLBoolTypeDistinctFromStringUptoRow : OpenClaim := { program := "ytgldghpljfaoaaa", sum := "16b143e9981bfc00781e264bf5d65fd126c9d98040aaca82f3577b507dddd8bb", func := "github.com/yuin/gopher-lua/n005_53.FnLBoolTypeDistinctFromString", spec := "fnLBoolTypeDistinctFromString", apart := false, narrowed := true }
def FnLBoolTypeDistinctFromStringUptoSaid : Prop := fnLBoolTypeDistinctFromStringUptoRow.holds Try.pinned (OpenSpec.upto fnLBoolTypeDistinctFromStringSpec)

/-- 'n005_53.FnLStringTypeIndependentOfContent', WHERE WHAT IT READS IS OF BULK AT MOST 1048576: true; the input reads as it did. -/
def fnLStringTypeIndependentOfContentUptoRow : OpenClaim := { program := "ytgldghpljfaoaaa", sum := "16b143e9981bfc00781e264bf5d65fd126c9d98040aaca82f3577b507dddd8bb", func := "github.com/yuin/gopher-lua/n005_53.FnLStringTypeIndependentOfContent", spec := "fnLStringTypeIndependentOfContent", apart := false, narrowed := true }
def FnLStringTypeIndependentOfContentUptoSaid : Prop := fnLStringTypeIndependentOfContentUptoRow.holds Try.pinned (OpenSpec.upto fnLStringTypeIndependentOfContentSpec)

/-- 'n005_53.FnLStringStringConcatInjective', WHERE WHAT IT READS IS OF BULK AT MOST 1048576: true; the input reads as it did. -/
def fnLStringStringConcatInjectiveUptoRow : OpenClaim := { program := "ytgldghpljfaoaaa", sum := "16b143e9981bfc00781e264bf5d65fd126c9d98040aaca82f3577b507dddd8bb", func := "github.com/yuin/gopher-lua/n005_53.FnLStringStringConcatInjective", spec := "fnLStringStringConcatInjective", apart := false, narrowed := true }
def FnLStringStringConcatInjectiveUptoSaid : Prop := fnLStringStringConcatInjectiveUptoRow.holds Try.pinned (OpenSpec.upto fnLStringStringConcatInjectiveSpec)

/-- 'n005_42.FnLocalContextMovesExactlyOffItsRegister', WHERE WHAT IT READS IS OF BULK AT MOST 1048576: true; the input reads as it did. -/
def fnLocalContextMovesExactlyOffItsRegisterUptoRow : OpenClaim := { program := "ytgldghpljfaoaaa", sum := "16b143e9981bfc00781e264bf5d65fd126c9d98040aaca82f3577b507dddd8bb", func := "github.com/yuin/gopher-lua/n005_42.FnLocalContextMovesExactlyOffItsRegister", spec := "fnLocalContextMovesExactlyOffItsRegister", apart := false, narrowed := true }
def FnLocalContextMovesExactlyOffItsRegisterUptoSaid : Prop := fnLocalContextMovesExactlyOffItsRegisterUptoRow.holds Try.pinned (OpenSpec.upto fnLocalContextMovesExactlyOffItsRegisterSpec)

/-- 'n005_53.FnLStringStringIsIdentity', WHERE WHAT IT READS IS OF BULK AT MOST 1048576: true; the input reads as it did. -/
def fnLStringStringIsIdentityUptoRow : OpenClaim := { program := "ytgldghpljfaoaaa", sum := "16b143e9981bfc00781e264bf5d65fd126c9d98040aaca82f3577b507dddd8bb", func := "github.com/yuin/gopher-lua/n005_53.FnLStringStringIsIdentity", spec := "fnLStringStringIsIdentity", apart := false, narrowed := true }
def FnLStringStringIsIdentityUptoSaid : Prop := fnLStringStringIsIdentityUptoRow.holds Try.pinned (OpenSpec.upto fnLStringStringIsIdentitySpec)

end Rows
end Go.Proofs.Ytgldghpljfaoaaa
