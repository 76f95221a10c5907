/- The maker of a function context: where each struct lies, and what it holds. -/
import Derived.Test.YticnfohoddlolaaFmtAddNil
import Derived.Test.YticnfohoddlolaaFmtCloneU32
import Derived.Test.YticnfohoddlolaaFmtCloneInt
import Derived.Test.YticnfohoddlolaaFmtCloneStr
namespace Go.Proofs.YticnfohoddlolaaFmt
open Go.ChangeShapes Go.WideShapes Go.ChangeAt Go.RowKit Go.Deep
set_option linter.unusedVariables false
set_option maxRecDepth 100000

/-- A row's content, from the list of its cells. -/
def lf (l : List Value) : Nat → Value := fun i => l.getD i undef

theorem lf_at (w : World) (l : List Value) (T k : Nat) (hk : k = w.heap.size) : (w.alloc (.cells l.toArray T)).rowIs k T l.length (lf l) := by
  subst hk
  have := World.rowIs_alloc w l.toArray T (lf l) (fun i hi => by
    have hi' : i < l.length := by simpa using hi
    simp [lf, List.getD, hi'])
  simpa using this

theorem blk_at (w : World) (o : Obj) (k : Nat) (hk : k = w.heap.size) : (w.alloc o).heap[k]? = some o := by
  subst hk
  exact blk_alloc_new w o
theorem st3_at (w : World) (x y z : Value) (T k : Nat) (hk : k = w.heap.size) : (w.alloc (.cells #[x, y, z] T)).rowIs k T 3 (st3 x y z) := by
  subst hk
  exact st3_alloc w x y z T

/-- A function context at h: parent pool, parent block, inner pool, inner block, proto, (code store), blocks, two maps, the context. -/
structure FC0 (w : World) (h : Nat) (ref : Bool) (po : Int) (an : Option Addr) (nn mn : Nat) (ai : Option Addr) (ni mi : Nat) (last : Int) (ad : Option Addr) (nd md : Nat) (blk : Nat) (rt : Int) : Prop where
  pp : w.rowIs h 51 2 (lf [.slice an nn mn, .int .i64 po])
  bp : w.rowIs (h + 1) 54 8 (lf [.pointer (some ⟨h, 0, none⟩), .int .i64 0, .pointer none, .bool false, .int .i64 0, .int .i64 0, .map none, .int .i64 0])
  pi : w.rowIs (h + 2) 51 2 (lf [.slice ai ni mi, .int .i64 (po + nn)])
  bi : w.rowIs (h + 3) 54 8 (lf [.pointer (some ⟨h + 2, 0, none⟩), .int .i64 0, .pointer (some ⟨h + 1, 0, none⟩), .bool ref, .int .i64 0, .int .i64 last, .map none, .int .i64 0])
  pr : w.rowIs (h + 4) 60 15 (lf [.string ByteArray.empty, .int .i64 0, .int .i64 0, .int .u8 0, .int .u8 0, .int .u8 0, .int .u8 0, .slice none 0 0, .slice none 0 0, .slice none 0 0, .slice none 0 0, .slice ad nd md, .slice none 0 0, .slice none 0 0, .slice none 0 0])
  bl : w.rowIs (h + 6) 48 2 (lf [.pointer (some ⟨h + 1, 0, none⟩), .pointer (some ⟨h + 3, 0, none⟩)])
  m7 : w.heap[h + 7]? = some (.map #[] 0)
  m8 : w.heap[h + 8]? = some (.map #[] 0)
  fc : w.rowIs (h + 9) 68 11 (lf [.pointer (some ⟨h + 4, 0, none⟩), .pointer (some ⟨h + 5, 0, none⟩), .pointer none, .pointer none, .pointer (some ⟨blk, 0, none⟩), .slice (some ⟨h + 6, 0, none⟩) 2 2, .int .i64 rt, .int .i64 0, .map (some (h + 7)), .int .i64 0, .map (some (h + 8))])

theorem FC0.keep {w w' : World} {h : Nat} {ref : Bool} {po : Int} {an : Option Addr} {nn mn : Nat} {ai : Option Addr} {ni mi : Nat} {last : Int} {ad : Option Addr} {nd md : Nat} {blk : Nat} {rt : Int} (H : FC0 w h ref po an nn mn ai ni mi last ad nd md blk rt)
    (hk : ∀ k, h ≤ k → k < h + 10 → k ≠ h + 5 → w'.heap[k]? = w.heap[k]?) : FC0 w' h ref po an nn mn ai ni mi last ad nd md blk rt :=
  ⟨H.pp.of_block (hk _ (by omega) (by omega) (by omega)), H.bp.of_block (hk _ (by omega) (by omega) (by omega)), H.pi.of_block (hk _ (by omega) (by omega) (by omega)), H.bi.of_block (hk _ (by omega) (by omega) (by omega)),
    H.pr.of_block (hk _ (by omega) (by omega) (by omega)), H.bl.of_block (hk _ (by omega) (by omega) (by omega)), (hk _ (by omega) (by omega) (by omega)).trans H.m7, (hk _ (by omega) (by omega) (by omega)).trans H.m8,
    H.fc.of_block (hk _ (by omega) (by omega) (by omega))⟩

theorem FC0.below {w w' : World} {h : Nat} {ref : Bool} {po : Int} {an : Option Addr} {nn mn : Nat} {ai : Option Addr} {ni mi : Nat} {last : Int} {ad : Option Addr} {nd md : Nat} {blk : Nat} {rt : Int} (H : FC0 w h ref po an nn mn ai ni mi last ad nd md blk rt)
    (b : Below w.heap.size w w') : FC0 w' h ref po an nn mn ai ni mi last ad nd md blk rt :=
  H.keep fun k _ h2 _ => b.block k (by have := H.fc.lt; omega)

/-- What the maker leaves. -/
def MadeFC (ref : Bool) (po : Int) (an ai ac al ad : Option Addr) (nn ni nc nl nd mn mi mc ml md : Nat) (last rt : Int) (w : World) (e : Ending) (w' : World) : Prop :=
  e = .returned (.pointer (some ⟨w.heap.size + 9, 0, none⟩)) ∧ FC0 w' w.heap.size ref po an nn mn ai ni mi last ad nd md (w.heap.size + 3) rt ∧
    w'.rowIs (w.heap.size + 5) 63 3 (st3 (.slice ac nc mc) (.slice al nl ml) (.int .i64 nc)) ∧ w'.heap.size = w.heap.size + 10 ∧ Below w.heap.size w w'

set_option maxHeartbeats 800000 in
theorem newFC_any (ref : Bool) (po : Int) (an ai ac al ad : Option Addr) (nn ni nc nl nd mn mi mc ml md : Nat) (last rt : Int) (w : World) (hp0 : 0 ≤ po) (hp1 : po ≤ 1073741824) (h1 : nn ≤ 65536) (h2 : ni ≤ 65536) (h3 : nc ≤ 65536) :
    Calls Tryf.prog 13 #[.bool ref, .int .i64 po, .slice an nn mn, .slice ai ni mi, .int .i64 last, .slice ac nc mc, .slice al nl ml, .slice ad nd md, .int .i64 rt] w
      (MadeFC ref po an ai ac al ad nn ni nc nl nd mn mi mc ml md last rt w) := by
  have hmm := @run_makeMap Tryf.prog
  go_enter Tryf.func13, Tryf.ntmps13
  go_wp2
  go_ret
  refine ⟨rfl, ⟨?_, ?_, ?_, ?_, ?_, ?_, ?_, ?_, ?_⟩, ?_, by simp, by repeat (first | exact Below.refl _ _ | (refine Below.alloc ?_ (by simp <;> omega) _))⟩
  · iterate 9 refine World.rowIs.alloc ?_ _
    exact lf_at w _ _ _ (by simp)
  · iterate 8 refine World.rowIs.alloc ?_ _
    exact lf_at _ _ _ _ (by simp)
  · iterate 7 refine World.rowIs.alloc ?_ _
    exact lf_at _ _ _ _ (by simp)
  · iterate 6 refine World.rowIs.alloc ?_ _
    exact lf_at _ _ _ _ (by simp)
  · iterate 5 refine World.rowIs.alloc ?_ _
    exact lf_at _ _ _ _ (by simp)
  · iterate 3 refine World.rowIs.alloc ?_ _
    exact lf_at _ _ _ _ (by simp)
  · iterate 2 refine (blk_alloc_lt _ _ _ (by simp <;> omega)).trans ?_
    exact blk_at _ _ _ (by simp)
  · refine (blk_alloc_lt _ _ _ (by simp <;> omega)).trans ?_
    exact blk_at _ _ _ (by simp)
  · exact lf_at _ _ _ _ (by simp)
  · iterate 4 refine World.rowIs.alloc ?_ _
    exact st3_at _ _ _ _ _ _ (by simp)
end Go.Proofs.YticnfohoddlolaaFmt
