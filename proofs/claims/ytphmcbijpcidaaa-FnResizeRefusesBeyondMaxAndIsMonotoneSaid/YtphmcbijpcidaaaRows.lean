/-
  No cell of these rows narrows 'for every input' (looked for: loops, veiled, ifaces, maps, wideKeys, modest, calm, conditions, laid).
  DERIVED. THE GIVEN ROWS OF THIS SEAT. 7 by the template 'for every input the law returns true; each argument reads behind the call as it read before'; 0 by the template 'total and deterministic' (their statements: YtphmcbijpcidaaaTotals.lean).
  GIVEN WITH THE SEED: the statements are not yours to turn. If you find one false, say at which input.
  Laid BY PROGRAM, IN A SANDBOX (cutbox-rows.mjs): the forced cells as the released guide's own fill.sh prints them over the translation f8fa73cce4458c39… (all of the seat's roots in one cut). By AI agents, Wed Nov 11 2026. No macro, syntax, notation, axiom, sorry.
-/
import Derived.Test.YtphmcbijpcidaaaChecked
import GoSem.Claim
import GoSem.ClaimJoined
import GoSem.ClaimMapViews
import Derived.JoinedTies
import Derived.KernelRfl
namespace Go.Proofs.Ytphmcbijpcidaaa
/- THE CELL 'sum', in the pinned program and in every row, IS THE sha256 OF THE DUMP (.gsa) THAT YtphmcbijpcidaaaProg.lean LOADS. Nothing in Lean hashes anything: it is a label: what it is worth is what the hold of that sum in a sandbox is worth. -/
noncomputable def Try.pinned : Pinned := { name := "ytphmcbijpcidaaa", sum := "f8fa73cce4458c3942ac5a07a7ab1a5215a670e24da804321083a279122d29b6", checked := Try.checked }
namespace Rows
def none {H : Type} : Left H := { results := [], args := [] }

/-- 'n005_56.FnForceResizeExact': WHATEVER THE INPUT: true; the input reads as it did. -/
def fnForceResizeExactSpec : ChangeSpec := { name := "fnForceResizeExact", fn := fun _ => fun
  | [d1, d2, d3] => { results := [.lit (.bool true)], args := [d1, d2, d3] }
  | _ => none }
def fnForceResizeExactRow : OpenClaim := { program := "ytphmcbijpcidaaa", sum := "f8fa73cce4458c3942ac5a07a7ab1a5215a670e24da804321083a279122d29b6", func := "github.com/yuin/gopher-lua/n005_56.FnForceResizeExact", spec := "fnForceResizeExact", apart := false }
def FnForceResizeExactSaid : Prop := fnForceResizeExactRow.holds Try.pinned (OpenSpec.ofChange fnForceResizeExactSpec)

/-- ITS FALSE NEIGHBOUR: 'it returns false'. Refute it at one input. -/
def fnForceResizeExactWrong : ChangeSpec := { name := "fnForceResizeExact", fn := fun _ => fun
  | [d1, d2, d3] => { results := [.lit (.bool false)], args := [d1, d2, d3] }
  | _ => none }
def FnForceResizeExactWrongFalsely : Prop := fnForceResizeExactRow.holds Try.pinned (OpenSpec.ofChange fnForceResizeExactWrong)

/-- 'n005_56.FnNewRegistryCapacityIsExactlyInitialSize': WHATEVER THE INPUT: true; the input reads as it did. -/
def fnNewRegistryCapacityIsExactlyInitialSizeSpec : ChangeSpec := { name := "fnNewRegistryCapacityIsExactlyInitialSize", fn := fun _ => fun
  | [d1, d2, d3] => { results := [.lit (.bool true)], args := [d1, d2, d3] }
  | _ => none }
def fnNewRegistryCapacityIsExactlyInitialSizeRow : OpenClaim := { program := "ytphmcbijpcidaaa", sum := "f8fa73cce4458c3942ac5a07a7ab1a5215a670e24da804321083a279122d29b6", func := "github.com/yuin/gopher-lua/n005_56.FnNewRegistryCapacityIsExactlyInitialSize", spec := "fnNewRegistryCapacityIsExactlyInitialSize", unfollowed := true, recurses := true, apart := false }
def FnNewRegistryCapacityIsExactlyInitialSizeSaid : Prop := fnNewRegistryCapacityIsExactlyInitialSizeRow.holds Try.pinned (OpenSpec.ofChange fnNewRegistryCapacityIsExactlyInitialSizeSpec)

/-- ITS FALSE NEIGHBOUR: 'it returns false'. Refute it at one input. -/
def fnNewRegistryCapacityIsExactlyInitialSizeWrong : ChangeSpec := { name := "fnNewRegistryCapacityIsExactlyInitialSize", fn := fun _ => fun
  | [d1, d2, d3] => { results := [.lit (.bool false)], args := [d1, d2, d3] }
  | _ => none }
def FnNewRegistryCapacityIsExactlyInitialSizeWrongFalsely : Prop := fnNewRegistryCapacityIsExactlyInitialSizeRow.holds Try.pinned (OpenSpec.ofChange fnNewRegistryCapacityIsExactlyInitialSizeWrong)

/-- 'n005_56.FnForceResizeComposes': WHATEVER THE INPUT: true; the input reads as it did. -/
def fnForceResizeComposesSpec : ChangeSpec := { name := "fnForceResizeComposes", fn := fun _ => fun
  | [d1, d2, d3, d4] => { results := [.lit (.bool true)], args := [d1, d2, d3, d4] }
  | _ => none }
def fnForceResizeComposesRow : OpenClaim := { program := "ytphmcbijpcidaaa", sum := "f8fa73cce4458c3942ac5a07a7ab1a5215a670e24da804321083a279122d29b6", func := "github.com/yuin/gopher-lua/n005_56.FnForceResizeComposes", spec := "fnForceResizeComposes", apart := false }
def FnForceResizeComposesSaid : Prop := fnForceResizeComposesRow.holds Try.pinned (OpenSpec.ofChange fnForceResizeComposesSpec)

/-- ITS FALSE NEIGHBOUR: 'it returns false'. Refute it at one input. -/
def fnForceResizeComposesWrong : ChangeSpec := { name := "fnForceResizeComposes", fn := fun _ => fun
  | [d1, d2, d3, d4] => { results := [.lit (.bool false)], args := [d1, d2, d3, d4] }
  | _ => none }
def FnForceResizeComposesWrongFalsely : Prop := fnForceResizeComposesRow.holds Try.pinned (OpenSpec.ofChange fnForceResizeComposesWrong)

/-- 'n005_56.FnResizeCaseTable': WHATEVER THE INPUT: true; the input reads as it did. -/
def fnResizeCaseTableSpec : ChangeSpec := { name := "fnResizeCaseTable", fn := fun _ => fun
  | [d1, d2, d3, d4, d5] => { results := [.lit (.bool true)], args := [d1, d2, d3, d4, d5] }
  | _ => none }
def fnResizeCaseTableRow : OpenClaim := { program := "ytphmcbijpcidaaa", sum := "f8fa73cce4458c3942ac5a07a7ab1a5215a670e24da804321083a279122d29b6", func := "github.com/yuin/gopher-lua/n005_56.FnResizeCaseTable", spec := "fnResizeCaseTable", unfollowed := true, recurses := true, apart := false }
def FnResizeCaseTableSaid : Prop := fnResizeCaseTableRow.holds Try.pinned (OpenSpec.ofChange fnResizeCaseTableSpec)

/-- ITS FALSE NEIGHBOUR: 'it returns false'. Refute it at one input. -/
def fnResizeCaseTableWrong : ChangeSpec := { name := "fnResizeCaseTable", fn := fun _ => fun
  | [d1, d2, d3, d4, d5] => { results := [.lit (.bool false)], args := [d1, d2, d3, d4, d5] }
  | _ => none }
def FnResizeCaseTableWrongFalsely : Prop := fnResizeCaseTableRow.holds Try.pinned (OpenSpec.ofChange fnResizeCaseTableWrong)

/-- 'n005_56.FnCheckSizeCaseTable': WHATEVER THE INPUT: true; the input reads as it did. -/
def fnCheckSizeCaseTableSpec : ChangeSpec := { name := "fnCheckSizeCaseTable", fn := fun _ => fun
  | [d1, d2, d3, d4, d5] => { results := [.lit (.bool true)], args := [d1, d2, d3, d4, d5] }
  | _ => none }
def fnCheckSizeCaseTableRow : OpenClaim := { program := "ytphmcbijpcidaaa", sum := "f8fa73cce4458c3942ac5a07a7ab1a5215a670e24da804321083a279122d29b6", func := "github.com/yuin/gopher-lua/n005_56.FnCheckSizeCaseTable", spec := "fnCheckSizeCaseTable", unfollowed := true, recurses := true, apart := false }
def FnCheckSizeCaseTableSaid : Prop := fnCheckSizeCaseTableRow.holds Try.pinned (OpenSpec.ofChange fnCheckSizeCaseTableSpec)

/-- ITS FALSE NEIGHBOUR: 'it returns false'. Refute it at one input. -/
def fnCheckSizeCaseTableWrong : ChangeSpec := { name := "fnCheckSizeCaseTable", fn := fun _ => fun
  | [d1, d2, d3, d4, d5] => { results := [.lit (.bool false)], args := [d1, d2, d3, d4, d5] }
  | _ => none }
def FnCheckSizeCaseTableWrongFalsely : Prop := fnCheckSizeCaseTableRow.holds Try.pinned (OpenSpec.ofChange fnCheckSizeCaseTableWrong)

/-- 'n005_56.FnCheckSizeMakesRoomAndSettles': WHATEVER THE INPUT: true; the input reads as it did. -/
def fnCheckSizeMakesRoomAndSettlesSpec : ChangeSpec := { name := "fnCheckSizeMakesRoomAndSettles", fn := fun _ => fun
  | [d1, d2, d3, d4, d5] => { results := [.lit (.bool true)], args := [d1, d2, d3, d4, d5] }
  | _ => none }
def fnCheckSizeMakesRoomAndSettlesRow : OpenClaim := { program := "ytphmcbijpcidaaa", sum := "f8fa73cce4458c3942ac5a07a7ab1a5215a670e24da804321083a279122d29b6", func := "github.com/yuin/gopher-lua/n005_56.FnCheckSizeMakesRoomAndSettles", spec := "fnCheckSizeMakesRoomAndSettles", unfollowed := true, recurses := true, apart := false }
def FnCheckSizeMakesRoomAndSettlesSaid : Prop := fnCheckSizeMakesRoomAndSettlesRow.holds Try.pinned (OpenSpec.ofChange fnCheckSizeMakesRoomAndSettlesSpec)

/-- ITS FALSE NEIGHBOUR: 'it returns false'. Refute it at one input. -/
def fnCheckSizeMakesRoomAndSettlesWrong : ChangeSpec := { name := "fnCheckSizeMakesRoomAndSettles", fn := fun _ => fun
  | [d1, d2, d3, d4, d5] => { results := [.lit (.bool false)], args := [d1, d2, d3, d4, d5] }
  | _ => none }
def FnCheckSizeMakesRoomAndSettlesWrongFalsely : Prop := fnCheckSizeMakesRoomAndSettlesRow.holds Try.pinned (OpenSpec.ofChange fnCheckSizeMakesRoomAndSettlesWrong)

/-- 'n005_56.FnResizeRefusesBeyondMaxAndIsMonotone': WHATEVER THE INPUT: true; the input reads as it did. -/
def fnResizeRefusesBeyondMaxAndIsMonotoneSpec : ChangeSpec := { name := "fnResizeRefusesBeyondMaxAndIsMonotone", fn := fun _ => fun
  | [d1, d2, d3, d4, d5] => { results := [.lit (.bool true)], args := [d1, d2, d3, d4, d5] }
  | _ => none }
def fnResizeRefusesBeyondMaxAndIsMonotoneRow : OpenClaim := { program := "ytphmcbijpcidaaa", sum := "f8fa73cce4458c3942ac5a07a7ab1a5215a670e24da804321083a279122d29b6", func := "github.com/yuin/gopher-lua/n005_56.FnResizeRefusesBeyondMaxAndIsMonotone", spec := "fnResizeRefusesBeyondMaxAndIsMonotone", unfollowed := true, recurses := true, apart := false }
def FnResizeRefusesBeyondMaxAndIsMonotoneSaid : Prop := fnResizeRefusesBeyondMaxAndIsMonotoneRow.holds Try.pinned (OpenSpec.ofChange fnResizeRefusesBeyondMaxAndIsMonotoneSpec)

/-- ITS FALSE NEIGHBOUR: 'it returns false'. Refute it at one input. -/
def fnResizeRefusesBeyondMaxAndIsMonotoneWrong : ChangeSpec := { name := "fnResizeRefusesBeyondMaxAndIsMonotone", fn := fun _ => fun
  | [d1, d2, d3, d4, d5] => { results := [.lit (.bool false)], args := [d1, d2, d3, d4, d5] }
  | _ => none }
def FnResizeRefusesBeyondMaxAndIsMonotoneWrongFalsely : Prop := fnResizeRefusesBeyondMaxAndIsMonotoneRow.holds Try.pinned (OpenSpec.ofChange fnResizeRefusesBeyondMaxAndIsMonotoneWrong)

/- THE SECOND FORM. 'bulk': how many values and letters a reading holds, each counted each time it is reached (what is shared counts as often as it is met; a slice's spare places count too). A statement '..UptoSaid' is the law's where the arguments, and the package variables that the reading takes, are together of bulk at most 1048576: NARROWER than '..Said'. Prove '..Said' where nothing that the law and all that it calls make is longer than what came in: it says more and counts as full. Else prove '..UptoSaid'. A law counts once. -/
mutual
def uptoBulk {H : Type} : DataW H → Nat
  | .lit (.string bytes) => bytes.length + 1
  | .lit _ => 1
  | .nil => 1
  | .ptr d => uptoBulk d + 1
  | .slice elems spare => uptoBulkAll elems + uptoBulkAll spare + 1
  | .agg parts => uptoBulkAll parts + 1
  | .iface _ d => uptoBulk d + 1
  | .map entries => uptoBulkEntries entries + 1
  | .held _ => 1
def uptoBulkAll {H : Type} : List (DataW H) → Nat
  | [] => 0
  | d :: r => uptoBulk d + uptoBulkAll r
def uptoBulkEntries {H : Type} : List (Lit × DataW H) → Nat
  | [] => 0
  | x :: r => uptoBulkEntry x + uptoBulkEntries r
def uptoBulkEntry {H : Type} : Lit × DataW H → Nat
  | (.string bytes, d) => bytes.length + uptoBulk d + 1
  | (_, d) => uptoBulk d + 1
 end
def uptoSmall : (H : Type) → List (DataW H) → Bool := fun _ ds => decide (uptoBulkAll ds ≤ 1048576)
def OpenSpec.upto (s : _root_.Go.ChangeSpec) : _root_.Go.OpenSpec := { _root_.Go.OpenSpec.ofChange s with cond := some uptoSmall }

/-- 'n005_56.FnForceResizeExact', WHERE WHAT IT READS IS OF BULK AT MOST 1048576: true; the input reads as it did. -/
def fnForceResizeExactUptoRow : OpenClaim := { program := "ytphmcbijpcidaaa", sum := "f8fa73cce4458c3942ac5a07a7ab1a5215a670e24da804321083a279122d29b6", func := "github.com/yuin/gopher-lua/n005_56.FnForceResizeExact", spec := "fnForceResizeExact", apart := false, narrowed := true }
def FnForceResizeExactUptoSaid : Prop := fnForceResizeExactUptoRow.holds Try.pinned (OpenSpec.upto fnForceResizeExactSpec)

/-- 'n005_56.FnNewRegistryCapacityIsExactlyInitialSize', WHERE WHAT IT READS IS OF BULK AT MOST 1048576: true; the input reads as it did. -/
def fnNewRegistryCapacityIsExactlyInitialSizeUptoRow : OpenClaim := { program := "ytphmcbijpcidaaa", sum := "f8fa73cce4458c3942ac5a07a7ab1a5215a670e24da804321083a279122d29b6", func := "github.com/yuin/gopher-lua/n005_56.FnNewRegistryCapacityIsExactlyInitialSize", spec := "fnNewRegistryCapacityIsExactlyInitialSize", unfollowed := true, recurses := true, apart := false, narrowed := true }
def FnNewRegistryCapacityIsExactlyInitialSizeUptoSaid : Prop := fnNewRegistryCapacityIsExactlyInitialSizeUptoRow.holds Try.pinned (OpenSpec.upto fnNewRegistryCapacityIsExactlyInitialSizeSpec)

/-- 'n005_56.FnForceResizeComposes', WHERE WHAT IT READS IS OF BULK AT MOST 1048576: true; the input reads as it did. -/
def fnForceResizeComposesUptoRow : OpenClaim := { program := "ytphmcbijpcidaaa", sum := "f8fa73cce4458c3942ac5a07a7ab1a5215a670e24da804321083a279122d29b6", func := "github.com/yuin/gopher-lua/n005_56.FnForceResizeComposes", spec := "fnForceResizeComposes", apart := false, narrowed := true }
def FnForceResizeComposesUptoSaid : Prop := fnForceResizeComposesUptoRow.holds Try.pinned (OpenSpec.upto fnForceResizeComposesSpec)

/-- 'n005_56.FnResizeCaseTable', WHERE WHAT IT READS IS OF BULK AT MOST 1048576: true; the input reads as it did. -/
def fnResizeCaseTableUptoRow : OpenClaim := { program := "ytphmcbijpcidaaa", sum := "f8fa73cce4458c3942ac5a07a7ab1a5215a670e24da804321083a279122d29b6", func := "github.com/yuin/gopher-lua/n005_56.FnResizeCaseTable", spec := "fnResizeCaseTable", unfollowed := true, recurses := true, apart := false, narrowed := true }
def FnResizeCaseTableUptoSaid : Prop := fnResizeCaseTableUptoRow.holds Try.pinned (OpenSpec.upto fnResizeCaseTableSpec)

/-- 'n005_56.FnCheckSizeCaseTable', WHERE WHAT IT READS IS OF BULK AT MOST 1048576: true; the input reads as it did. -/
def fnCheckSizeCaseTableUptoRow : OpenClaim := { program := "ytphmcbijpcidaaa", sum := "f8fa73cce4458c3942ac5a07a7ab1a5215a670e24da804321083a279122d29b6", func := "github.com/yuin/gopher-lua/n005_56.FnCheckSizeCaseTable", spec := "fnCheckSizeCaseTable", unfollowed := true, recurses := true, apart := false, narrowed := true }
def FnCheckSizeCaseTableUptoSaid : Prop := fnCheckSizeCaseTableUptoRow.holds Try.pinned (OpenSpec.upto fnCheckSizeCaseTableSpec)

/-- 'n005_56.FnCheckSizeMakesRoomAndSettles', WHERE WHAT IT READS IS OF BULK AT MOST 1048576: true; the input reads as it did. -/
def fnCheckSizeMakesRoomAndSettlesUptoRow : OpenClaim := { program := "ytphmcbijpcidaaa", sum := "f8fa73cce4458c3942ac5a07a7ab1a5215a670e24da804321083a279122d29b6", func := "github.com/yuin/gopher-lua/n005_56.FnCheckSizeMakesRoomAndSettles", spec := "fnCheckSizeMakesRoomAndSettles", unfollowed := true, recurses := true, apart := false, narrowed := true }
def FnCheckSizeMakesRoomAndSettlesUptoSaid : Prop := fnCheckSizeMakesRoomAndSettlesUptoRow.holds Try.pinned (OpenSpec.upto fnCheckSizeMakesRoomAndSettlesSpec)

/-- 'n005_56.FnResizeRefusesBeyondMaxAndIsMonotone', WHERE WHAT IT READS IS OF BULK AT MOST 1048576: true; the input reads as it did. -/
def fnResizeRefusesBeyondMaxAndIsMonotoneUptoRow : OpenClaim := { program := "ytphmcbijpcidaaa", sum := "f8fa73cce4458c3942ac5a07a7ab1a5215a670e24da804321083a279122d29b6", func := "github.com/yuin/gopher-lua/n005_56.FnResizeRefusesBeyondMaxAndIsMonotone", spec := "fnResizeRefusesBeyondMaxAndIsMonotone", unfollowed := true, recurses := true, apart := false, narrowed := true }
def FnResizeRefusesBeyondMaxAndIsMonotoneUptoSaid : Prop := fnResizeRefusesBeyondMaxAndIsMonotoneUptoRow.holds Try.pinned (OpenSpec.upto fnResizeRefusesBeyondMaxAndIsMonotoneSpec)

end Rows
end Go.Proofs.Ytphmcbijpcidaaa
