/-
  No cell of these rows narrows 'for every input' (looked for: loops, veiled, ifaces, maps, wideKeys, modest, calm, conditions, laid).
  DERIVED. THE GIVEN ROWS OF THIS SEAT. 5 by the template 'for every input the law returns true; each argument reads behind the call as it read before'; 0 by the template 'total and deterministic' (their statements: YtgnommaelahjlaaTotals.lean).
  GIVEN WITH THE SEED: the statements are not yours to turn. If you find one false, say at which input.
  Laid BY PROGRAM, IN A SANDBOX (cutbox-rows.mjs): the forced cells as the released guide's own fill.sh prints them over the translation 4b118c38603943c1… (all of the seat's roots in one cut). By AI agents, Wed Nov 11 2026. No macro, syntax, notation, axiom, sorry.
-/
import Derived.Test.YtgnommaelahjlaaChecked
import GoSem.Claim
import GoSem.ClaimJoined
import GoSem.ClaimMapViews
import Derived.JoinedTies
import Derived.KernelRfl
namespace Go.Proofs.Ytgnommaelahjlaa
/- THE CELL 'sum', in the pinned program and in every row, IS THE sha256 OF THE DUMP (.gsa) THAT YtgnommaelahjlaaProg.lean LOADS. Nothing in Lean hashes anything: it is a label: what it is worth is what the hold of that sum in a sandbox is worth. -/
noncomputable def Try.pinned : Pinned := { name := "ytgnommaelahjlaa", sum := "4b118c38603943c152e53cb0defcfaf196e6890bc665b763ad4f8e79b2076a0f", checked := Try.checked }
namespace Rows
def none {H : Type} : Left H := { results := [], args := [] }

/-- 'n005_52.FnUserDataTypeDistinctTag': WHATEVER THE INPUT: true; the input reads as it did. -/
def fnUserDataTypeDistinctTagSpec : ChangeSpec := { name := "fnUserDataTypeDistinctTag", fn := fun _ => fun
  | [] => { results := [.lit (.bool true)], args := [] }
  | _ => none }
def fnUserDataTypeDistinctTagRow : OpenClaim := { program := "ytgnommaelahjlaa", sum := "4b118c38603943c152e53cb0defcfaf196e6890bc665b763ad4f8e79b2076a0f", func := "github.com/yuin/gopher-lua/n005_52.FnUserDataTypeDistinctTag", spec := "fnUserDataTypeDistinctTag", apart := false }
def FnUserDataTypeDistinctTagSaid : Prop := fnUserDataTypeDistinctTagRow.holds Try.pinned (OpenSpec.ofChange fnUserDataTypeDistinctTagSpec)

/-- ITS FALSE NEIGHBOUR: 'it returns false'. Refute it at one input. -/
def fnUserDataTypeDistinctTagWrong : ChangeSpec := { name := "fnUserDataTypeDistinctTag", fn := fun _ => fun
  | [] => { results := [.lit (.bool false)], args := [] }
  | _ => none }
def FnUserDataTypeDistinctTagWrongFalsely : Prop := fnUserDataTypeDistinctTagRow.holds Try.pinned (OpenSpec.ofChange fnUserDataTypeDistinctTagWrong)

/-- 'n005_52.FnLStateTypeDistinctTag': WHATEVER THE INPUT: true; the input reads as it did. -/
def fnLStateTypeDistinctTagSpec : ChangeSpec := { name := "fnLStateTypeDistinctTag", fn := fun _ => fun
  | [] => { results := [.lit (.bool true)], args := [] }
  | _ => none }
def fnLStateTypeDistinctTagRow : OpenClaim := { program := "ytgnommaelahjlaa", sum := "4b118c38603943c152e53cb0defcfaf196e6890bc665b763ad4f8e79b2076a0f", func := "github.com/yuin/gopher-lua/n005_52.FnLStateTypeDistinctTag", spec := "fnLStateTypeDistinctTag", apart := false }
def FnLStateTypeDistinctTagSaid : Prop := fnLStateTypeDistinctTagRow.holds Try.pinned (OpenSpec.ofChange fnLStateTypeDistinctTagSpec)

/-- ITS FALSE NEIGHBOUR: 'it returns false'. Refute it at one input. -/
def fnLStateTypeDistinctTagWrong : ChangeSpec := { name := "fnLStateTypeDistinctTag", fn := fun _ => fun
  | [] => { results := [.lit (.bool false)], args := [] }
  | _ => none }
def FnLStateTypeDistinctTagWrongFalsely : Prop := fnLStateTypeDistinctTagRow.holds Try.pinned (OpenSpec.ofChange fnLStateTypeDistinctTagWrong)

/-- 'n005_6.FnLuaIndex2StringIndexWindow': WHATEVER THE INPUT: true; the input reads as it did. -/
def fnLuaIndex2StringIndexWindowSpec : ChangeSpec := { name := "fnLuaIndex2StringIndexWindow", fn := fun _ => fun
  | [d1, d2] => { results := [.lit (.bool true)], args := [d1, d2] }
  | _ => none }
def fnLuaIndex2StringIndexWindowRow : OpenClaim := { program := "ytgnommaelahjlaa", sum := "4b118c38603943c152e53cb0defcfaf196e6890bc665b763ad4f8e79b2076a0f", func := "github.com/yuin/gopher-lua/n005_6.FnLuaIndex2StringIndexWindow", spec := "fnLuaIndex2StringIndexWindow", apart := false }
def FnLuaIndex2StringIndexWindowSaid : Prop := fnLuaIndex2StringIndexWindowRow.holds Try.pinned (OpenSpec.ofChange fnLuaIndex2StringIndexWindowSpec)

/-- ITS FALSE NEIGHBOUR: 'it returns false'. Refute it at one input. -/
def fnLuaIndex2StringIndexWindowWrong : ChangeSpec := { name := "fnLuaIndex2StringIndexWindow", fn := fun _ => fun
  | [d1, d2] => { results := [.lit (.bool false)], args := [d1, d2] }
  | _ => none }
def FnLuaIndex2StringIndexWindowWrongFalsely : Prop := fnLuaIndex2StringIndexWindowRow.holds Try.pinned (OpenSpec.ofChange fnLuaIndex2StringIndexWindowWrong)

/-- 'n005_6.FnLuaIndex2StringIndexSpec': WHATEVER THE INPUT: true; the input reads as it did. -/
def fnLuaIndex2StringIndexSpecSpec : ChangeSpec := { name := "fnLuaIndex2StringIndexSpec", fn := fun _ => fun
  | [d1, d2, d3] => { results := [.lit (.bool true)], args := [d1, d2, d3] }
  | _ => none }
def fnLuaIndex2StringIndexSpecRow : OpenClaim := { program := "ytgnommaelahjlaa", sum := "4b118c38603943c152e53cb0defcfaf196e6890bc665b763ad4f8e79b2076a0f", func := "github.com/yuin/gopher-lua/n005_6.FnLuaIndex2StringIndexSpec", spec := "fnLuaIndex2StringIndexSpec", apart := false }
def FnLuaIndex2StringIndexSpecSaid : Prop := fnLuaIndex2StringIndexSpecRow.holds Try.pinned (OpenSpec.ofChange fnLuaIndex2StringIndexSpecSpec)

/-- ITS FALSE NEIGHBOUR: 'it returns false'. Refute it at one input. -/
def fnLuaIndex2StringIndexSpecWrong : ChangeSpec := { name := "fnLuaIndex2StringIndexSpec", fn := fun _ => fun
  | [d1, d2, d3] => { results := [.lit (.bool false)], args := [d1, d2, d3] }
  | _ => none }
def FnLuaIndex2StringIndexSpecWrongFalsely : Prop := fnLuaIndex2StringIndexSpecRow.holds Try.pinned (OpenSpec.ofChange fnLuaIndex2StringIndexSpecWrong)

/-- 'n005_41.FnSetBLastWriteWinsAndReadsBack': WHATEVER THE INPUT: true; the input reads as it did. -/
def fnSetBLastWriteWinsAndReadsBackSpec : ChangeSpec := { name := "fnSetBLastWriteWinsAndReadsBack", fn := fun _ => fun
  | [d1, d2, d3, d4] => { results := [.lit (.bool true)], args := [d1, d2, d3, d4] }
  | _ => none }
def fnSetBLastWriteWinsAndReadsBackRow : OpenClaim := { program := "ytgnommaelahjlaa", sum := "4b118c38603943c152e53cb0defcfaf196e6890bc665b763ad4f8e79b2076a0f", func := "github.com/yuin/gopher-lua/n005_41.FnSetBLastWriteWinsAndReadsBack", spec := "fnSetBLastWriteWinsAndReadsBack", apart := false }
def FnSetBLastWriteWinsAndReadsBackSaid : Prop := fnSetBLastWriteWinsAndReadsBackRow.holds Try.pinned (OpenSpec.ofChange fnSetBLastWriteWinsAndReadsBackSpec)

/-- ITS FALSE NEIGHBOUR: 'it returns false'. Refute it at one input. -/
def fnSetBLastWriteWinsAndReadsBackWrong : ChangeSpec := { name := "fnSetBLastWriteWinsAndReadsBack", fn := fun _ => fun
  | [d1, d2, d3, d4] => { results := [.lit (.bool false)], args := [d1, d2, d3, d4] }
  | _ => none }
def FnSetBLastWriteWinsAndReadsBackWrongFalsely : Prop := fnSetBLastWriteWinsAndReadsBackRow.holds Try.pinned (OpenSpec.ofChange fnSetBLastWriteWinsAndReadsBackWrong)

/- THE SECOND FORM. 'bulk': how many values and letters a reading holds, each counted each time it is reached (what is shared counts as often as it is met; a slice's spare places count too). A statement '..UptoSaid' is the law's where the arguments, and the package variables that the reading takes, are together of bulk at most 1048576: NARROWER than '..Said'. Prove '..Said' where nothing that the law and all that it calls make is longer than what came in: it says more and counts as full. Else prove '..UptoSaid'. A law counts once. -/
mutual
def uptoBulk {H : Type} : DataW H → Nat
  | .lit (.string bytes) => bytes.length + 1
  | .lit _ => 1
  | .nil => 1
  | .ptr d => uptoBulk d + 1
  | .slice elems spare => uptoBulkAll elems + uptoBulkAll spare + 1
  | .agg parts => uptoBulkAll parts + 1
  | .iface _ d => uptoBulk d + 1
  | .map entries => uptoBulkEntries entries + 1
  | .held _ => 1
def uptoBulkAll {H : Type} : List (DataW H) → Nat
  | [] => 0
  | d :: r => uptoBulk d + uptoBulkAll r
def uptoBulkEntries {H : Type} : List (Lit × DataW H) → Nat
  | [] => 0
  | x :: r => uptoBulkEntry x + uptoBulkEntries r
def uptoBulkEntry {H : Type} : Lit × DataW H → Nat
  | (.string bytes, d) => bytes.length + uptoBulk d + 1
  | (_, d) => uptoBulk d + 1
 end
def uptoSmall : (H : Type) → List (DataW H) → Bool := fun _ ds => decide (uptoBulkAll ds ≤ 1048576)
def OpenSpec.upto (s : _root_.Go.ChangeSpec) : _root_.Go.OpenSpec := { _root_.Go.OpenSpec.ofChange s with cond := some uptoSmall }

/-- 'n005_52.FnUserDataTypeDistinctTag', WHERE WHAT IT READS IS OF BULK AT MOST 1048576: true; the input reads as it did. -/
def fnUserDataTypeDistinctTagUptoRow : OpenClaim := { program := "ytgnommaelahjlaa", sum := "4b118c38603943c152e53cb0defcfaf196e6890bc665b763ad4f8e79b2076a0f", func := "github.com/yuin/gopher-lua/n005_52.FnUserDataTypeDistinctTag", spec := "fnUserDataTypeDistinctTag", apart := false, narrowed := true }
def FnUserDataTypeDistinctTagUptoSaid : Prop := fnUserDataTypeDistinctTagUptoRow.holds Try.pinned (OpenSpec.upto fnUserDataTypeDistinctTagSpec)

/-- 'n005_52.FnLStateTypeDistinctTag', WHERE WHAT IT READS IS OF BULK AT MOST 1048576: true; the input reads as it did. -/
def fnLStateTypeDistinctTagUptoRow : OpenClaim := { program := "ytgnommaelahjlaa", sum := "4b118c38603943c152e53cb0defcfaf196e6890bc665b763ad4f8e79b2076a0f", func := "github.com/yuin/gopher-lua/n005_52.FnLStateTypeDistinctTag", spec := "fnLStateTypeDistinctTag", apart := false, narrowed := true }
def FnLStateTypeDistinctTagUptoSaid : Prop := fnLStateTypeDistinctTagUptoRow.holds Try.pinned (OpenSpec.upto fnLStateTypeDistinctTagSpec)

/-- 'n005_6.FnLuaIndex2StringIndexWindow', WHERE WHAT IT READS IS OF BULK AT MOST 1048576: true; the input reads as it did. -/
def fnLuaIndex2StringIndexWindowUptoRow : OpenClaim := { program := "ytgnommaelahjlaa", sum := "4b118c38603943c152e53cb0defcfaf196e6890bc665b763ad4f8e79b2076a0f", func := "github.com/yuin/gopher-lua/n005_6.FnLuaIndex2StringIndexWindow", spec := "fnLuaIndex2StringIndexWindow", apart := false, narrowed := true }
def FnLuaIndex2StringIndexWindowUptoSaid : Prop := fnLuaIndex2StringIndexWindowUptoRow.holds Try.pinned (OpenSpec.upto fnLuaIndex2StringIndexWindowSpec)

/-- 'n005_6.FnLuaIndex2StringIndexSpec', WHERE WHAT IT READS IS OF BULK AT MOST 1048576: true; the input reads as it did. -/
def fnLuaIndex2StringIndexSpecUptoRow : OpenClaim := { program := "ytgnommaelahjlaa", sum := "4b118c38603943c152e53cb0defcfaf196e6890bc665b763ad4f8e79b2076a0f", func := "github.com/yuin/gopher-lua/n005_6.FnLuaIndex2StringIndexSpec", spec := "fnLuaIndex2StringIndexSpec", apart := false, narrowed := true }
def FnLuaIndex2StringIndexSpecUptoSaid : Prop := fnLuaIndex2StringIndexSpecUptoRow.holds Try.pinned (OpenSpec.upto fnLuaIndex2StringIndexSpecSpec)

/-- 'n005_41.FnSetBLastWriteWinsAndReadsBack', WHERE WHAT IT READS IS OF BULK AT MOST 1048576: true; the input reads as it did. -/
def fnSetBLastWriteWinsAndReadsBackUptoRow : OpenClaim := { program := "ytgnommaelahjlaa", sum := "4b118c38603943c152e53cb0defcfaf196e6890bc665b763ad4f8e79b2076a0f", func := "github.com/yuin/gopher-lua/n005_41.FnSetBLastWriteWinsAndReadsBack", spec := "fnSetBLastWriteWinsAndReadsBack", apart := false, narrowed := true }
def FnSetBLastWriteWinsAndReadsBackUptoSaid : Prop := fnSetBLastWriteWinsAndReadsBackUptoRow.holds Try.pinned (OpenSpec.upto fnSetBLastWriteWinsAndReadsBackSpec)

end Rows
end Go.Proofs.Ytgnommaelahjlaa
