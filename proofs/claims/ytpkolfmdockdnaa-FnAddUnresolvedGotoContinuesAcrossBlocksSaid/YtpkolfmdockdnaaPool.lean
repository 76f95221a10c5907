/- Pools of names, blocks, chains of blocks (n005_54): makers, Register, LocalVarsCount. -/
import Derived.Test.YtpkolfmdockdnaaRows2
import Derived.Laws.AppendOwn
import Derived.OwnWalk
import Derived.Laws.Entries
namespace Go.Proofs.Ytpkolfmdockdnaa
open Go.ChangeShapes Go.WideShapes Go.ChangeAt Go.RowKit
set_option linter.unusedVariables false

/-- A row's content, from the list of its cells. -/
def lf (l : List Value) : Nat → Value := fun i => l.getD i undef
theorem lf_at (w : World) (l : List Value) (T k : Nat) (hk : k = w.heap.size) : (w.alloc (.cells l.toArray T)).rowIs k T l.length (lf l) := by
  subst hk
  have := World.rowIs_alloc w l.toArray T (lf l) (fun i hi => by
    have hi' : i < l.length := by simpa using hi
    simp [lf, List.getD, hi'])
  simpa using this
theorem own_form {w : World} {B : Nat} {T : TypeId} {v : Value} {n : Nat} {xs : List Value} (h : w.ownsRow B T 1 v n xs) (hn : 0 < n) : ∃ g cap, v = .slice (some ⟨g, 0, none⟩) n cap ∧ B ≤ g ∧ g < w.heap.size := by
  obtain ⟨_, h | ⟨g, cap, cur, hv, hg, hh, _⟩⟩ := h
  · omega
  · exact ⟨g, cap, hv, hg, lt_of_block hh⟩
theorem own_ge {w : World} {B T : Nat} {v : Value} {n : Nat} {xs : List Value} (h : w.ownsRow B T 1 v n xs) {k : Nat} (hk : k < B) : v.ownBlock ≠ some k := by
  obtain ⟨_, ⟨rfl, _⟩ | ⟨g, cap, cur, rfl, hg, _⟩⟩ := h
  · simp [Value.ownBlock]
  · simp [Value.ownBlock]; omega
theorem own_ne_row {w : World} {B c m T T' : Nat} {f : Nat → Value} {v : Value} {n : Nat} {xs : List Value} (hs : w.rowIs c T m f) (h : w.ownsRow B T' 1 v n xs) (hT : T ≠ T') : v.ownBlock ≠ some c := by
  obtain ⟨_, ⟨rfl, _⟩ | ⟨g, cap, cur, rfl, _, hh, _⟩⟩ := h
  · simp [Value.ownBlock]
  · obtain ⟨cs, hc, _⟩ := hs
    intro e
    simp [Value.ownBlock] at e
    subst e
    rw [hc] at hh
    simp at hh
    exact hT hh.2
theorem own_alloc (w : World) (T : TypeId) (c : Nat) (z : Value) (hc : c ≤ maxLen) : (w.alloc (.cells (Array.replicate c z) T)).ownsRow w.heap.size T 1 (.slice (some ⟨w.heap.size, 0, none⟩) 0 c) 0 [] := by
  exact ⟨rfl, .inr ⟨w.heap.size, c, Array.replicate c z, rfl, Nat.le_refl _, Go.Deep.blk_alloc_new _ _, Nat.zero_le _, hc, by simp, by simp⟩⟩

theorem infoS : (Try.prog.info? 9).map (fun i => (i.zero, i.size, i.bytes)) = some (some (Value.string ByteArray.empty), 1, 16) := by kernel_rfl

/-- A pool at p: n names, the slice's array owned from B on. -/
def Pool (w : World) (B p n : Nat) (off : Int) : Prop := ∃ a c xs, w.rowIs p 66 2 (lf [.slice a n c, .int .i64 off]) ∧ w.ownsRow B 9 1 (.slice a n c) n xs

theorem own_below {w w' : World} {B T : Nat} {v : Value} {n : Nat} {xs : List Value} (h : w.ownsRow B T 1 v n xs) (b : Below w.heap.size w w') : w'.ownsRow B T 1 v n xs := by
  obtain ⟨h1, h | ⟨g, cap, cur, hv, hg, hh, r⟩⟩ := h
  · exact ⟨h1, .inl h⟩
  · exact ⟨h1, .inr ⟨g, cap, cur, hv, hg, (b.block g (lt_of_block hh)).trans hh, r⟩⟩
theorem Pool.below {w w' : World} {B p n : Nat} {off : Int} (h : Pool w B p n off) (b : Below w.heap.size w w') : Pool w' B p n off := by
  obtain ⟨a, c, xs, hs, ho⟩ := h
  exact ⟨a, c, xs, hs.of_block (b.block _ hs.lt), own_below ho b⟩

theorem newPool_any (off : Int) (w : World) : Calls Try.prog 28 #[.int .i64 off] w fun e w' => e = .returned (.pointer (some ⟨w.heap.size + 1, 0, none⟩)) ∧ Pool w' w.heap.size (w.heap.size + 1) 0 off ∧ w'.heap.size = w.heap.size + 2 ∧ Below w.heap.size w w' := by
  have hmk : ∀ W : World, (Instr.makeSlice 41 (.int .i64 0) (.int .i64 16)).run Try.prog W = .ok (.slice (some ⟨W.heap.size, 0, none⟩) 0 16) (W.alloc (.cells (Array.replicate 16 (.string ByteArray.empty)) 9)) := fun _ => by kernel_rfl
  go_enter Try.func28, Try.ntmps28
  go_wp2
  go_ret
  refine ⟨rfl, ⟨some ⟨w.heap.size, 0, none⟩, 16, [], ?_, ?_⟩, by simp, by repeat (first | exact Below.refl _ _ | (refine Below.alloc ?_ (by simp <;> omega) _))⟩
  · exact lf_at _ [_, _] _ _ (by simp)
  · exact (own_alloc w 9 16 (.string ByteArray.empty) (by unfold maxLen; omega)).alloc _

set_option maxHeartbeats 400000 in
theorem register_any (B p n : Nat) (off : Int) (s : ByteArray) (w : World) (h : Pool w B p n off) (hn : n ≤ 65536) (ho : 0 ≤ off) (ho2 : off ≤ 65536) (hp : B ≤ p) :
    Calls Try.prog 20 #[.pointer (some ⟨p, 0, none⟩), .string s] w fun e w' => (∃ r, e = .returned (.int .i64 r)) ∧ Pool w' B p (n + 1) off ∧ w.heap.size ≤ w'.heap.size ∧ Below B w w' ∧ ∀ (c T m : Nat) (f : Nat → Value), T ≠ 9 → c ≠ p → w.rowIs c T m f → w'.rowIs c T m f := by
  obtain ⟨a, c, xs, hs, h0⟩ := h
  obtain ⟨i0, hi0, hz00, hz01, hz02⟩ := info_parts infoS
  have hcl := hs.lt
  have hc0 : w.cell? ⟨p, 0, none⟩ = some (.slice a n c) := hs.cell (i := 0) (by omega)
  have hf0 := hs.frozen 0
  have ne0 := own_ne_row hs h0 (by decide)
  go_enter Try.func20, Try.ntmps20
  go_wp2_with (at_builtin; refine wpList_append_own _ rfl _ _ 41 rfl B 9 i0 (.string ByteArray.empty) 1 16 Try.underlying41 hi0 hz00 hz01 hz02 rfl (by decide) _ _ _ rfl (h0.alloc _) ⟨w.heap.size, 0, none⟩ 1 1 [.string s] rfl rfl ?_ ?_ ?_ ?_ ?_ ?_)
  · exact cell_one_new _ _ _
  · intro u hu; simp at hu; subst hu; rfl
  · unfold maxLen; omega
  · omega
  · simp; omega
  intro v1 w1 own1 gr1 _
  obtain ⟨g1, p1, hv1, hg1B, hg1l⟩ := own_form own1 (by omega)
  rw [hv1] at own1 ⊢
  have HV1 := Lib.hid hv1
  clear hv1
  have cl : p < (w.alloc (Obj.cells #[Value.string s] 9)).heap.size := by simp; omega
  have hs1 := (hs.alloc (Obj.cells #[Value.string s] 9)).of_block (gr1.block p cl (fun e => ne0 e.symm))
  have sz1 := gr1.size
  simp only [World.size_alloc] at sz1
  have k0 : w1.cell? ⟨p, 0, none⟩ = some (.slice a n c) := hs1.cell (i := 0) (by omega)
  have k1 : w1.cell? ⟨p, 1, none⟩ = some (.int .i64 off) := hs1.cell (i := 1) (by omega)
  have kf0 := hs1.frozen 0
  have own4 := ownsRow_setCell_other own1 (a := ⟨p, 0, none⟩) (own_ne_row hs1 own1 (by decide)) (.slice (some ⟨g1, 0, none⟩) (n + 1) p1)
  have bel : Below B w (w1.setCell ⟨p, 0, none⟩ (.slice (some ⟨g1, 0, none⟩) (n + 1) p1)) := by
    refine ⟨gr1.os, gr1.tape, gr1.output, by simp [World.setCell] at sz1 ⊢; omega, fun k hk => ?_⟩
    by_cases hkw : k < w.heap.size
    · rw [Below.heap_setCell _ _ _ k (show k ≠ p by omega), gr1.block k (by simp; omega) (fun e => own_ge h0 hk e.symm), Below.heap_alloc _ _ k hkw]
    · omega
  clear hc0 hf0
  go_wp2_with fail
  go_quiet (fail)
  go_wp2
  go_ret
  refine ⟨⟨_, rfl⟩, ⟨_, _, _, (hs1.set 0 _).congr fun i hi => ?_, own4⟩, by simp [World.setCell]; omega, below_drewN bel _, fun c T m f hT hc hr => ((hr.of_block ((gr1.block c (by have := hr.lt; simp; omega) (fun e => own_ne_row hr h0 hT e.symm)).trans (Below.heap_alloc _ _ c hr.lt))).setOther (a := ⟨p, 0, none⟩) hc _).of_block rfl⟩
  match i, hi with
  | 0, _ => rfl
  | 1, _ => rfl

theorem infoI : (Try.prog.info? 3).map (fun i => (i.zero, i.size, i.bytes)) = some (some (Value.int .i64 0), 1, 8) := by kernel_rfl
theorem zzPool_any (off : Int) (w : World) : Calls Try.prog 19 #[.int .i64 off] w fun e w' => e = .returned (.pointer (some ⟨w.heap.size + 1, 0, none⟩)) ∧ Pool w' w.heap.size (w.heap.size + 1) 0 off ∧ w'.heap.size = w.heap.size + 2 ∧ Below w.heap.size w w' := by
  go_enter Try.func19, Try.ntmps19
  go_wp2_with fail
  refine (newPool_any off _).mono ?_
  rintro e w1 ⟨rfl, q⟩
  have Q := Lib.hid q
  clear q
  go_wp2_with fail
  go_ret
  exact ⟨rfl, Q.out⟩

theorem newBlock_any (p : Option Addr) (x : Option Addr) (w : World) : Calls Try.prog 18 #[.pointer p, .pointer x] w fun e w' => e = .returned (.pointer (some ⟨w.heap.size + 1, 0, none⟩)) ∧
    w'.rowIs (w.heap.size + 1) 63 8 (lf [.pointer p, .int .i64 0, .pointer x, .bool false, .int .i64 0, .int .i64 0, .map (some w.heap.size), .int .i64 0]) ∧ w'.heap.size = w.heap.size + 2 ∧ Below w.heap.size w w' := by
  have hmm := @run_makeMap Try.prog
  go_enter Try.func18, Try.ntmps18
  go_wp2_with (go_at_call 27; go_in)
  go_ret
  refine ⟨rfl, ?_, by simp, by repeat (first | exact Below.refl _ _ | (refine Below.alloc ?_ (by simp <;> omega) _))⟩
  exact lf_at _ [_, _, _, _, _, _, _, _] _ _ (by simp)

/-- A chain of blocks, the innermost first: how many names each holds. Each block lies behind its parent. -/
def Chain (w : World) : Nat → Option Addr → List Nat → Prop
  | _, a, [] => a = none
  | B, a, n :: ns => ∃ b p sa sc x, a = some ⟨b, 0, none⟩ ∧ b < B ∧ p < b ∧ w.cell? ⟨b, 0, none⟩ = some (.pointer (some ⟨p, 0, none⟩)) ∧ w.cell? ⟨b, 2, none⟩ = some (.pointer x) ∧ w.cell? ⟨p, 0, none⟩ = some (.slice sa n sc) ∧ Chain w b x ns

theorem Chain.below {w w' : World} : ∀ {ns : List Nat} {B : Nat} {a : Option Addr}, Chain w B a ns → Below B w w' → Chain w' B a ns
  | [], _, _, h, _ => h
  | _ :: _, _, _, h, k => by
    obtain ⟨b, p, sa, sc, x, rfl, h1, h2, h3, h4, h5, h6⟩ := h
    exact ⟨b, p, sa, sc, x, rfl, h1, h2, (k.cell (p := ⟨b, 0, none⟩) h1).trans h3, (k.cell (p := ⟨b, 2, none⟩) h1).trans h4, (k.cell (p := ⟨p, 0, none⟩) (show p < _ by omega)).trans h5, Chain.below h6 (k.mono (by omega))⟩
theorem Chain.mono {w : World} {ns : List Nat} {B B' : Nat} {a : Option Addr} (h : Chain w B a ns) (hB : B ≤ B') : Chain w B' a ns := by
  cases ns with
  | nil => exact h
  | cons n ns =>
    obtain ⟨b, p, sa, sc, x, rfl, h1, h⟩ := h
    exact ⟨b, p, sa, sc, x, rfl, by omega, h⟩

theorem count_any (B : Nat) (a : Option Addr) (ns : List Nat) (t : Nat) (w : World) (h : Chain w B a ns) (ht : ns.sum = t) (h2 : t ≤ 1048576) :
    Calls Try.prog 21 #[.pointer a] w fun e w' => e = .returned (.int .i64 t) ∧ ∃ k, w.drewN k = w' := by
  have HT := Lib.hid ht
  have HC := Lib.hid h
  clear ht h
  go_enter Try.func21, Try.ntmps21
  go_wp2
  go_loopw [3, 4] (fun cv bl wr => ∃ (C : Nat) (q : Option Addr) (ms : List Nat) (acc k : Nat), bl = .pointer q ∧ cv = .int .i64 acc ∧ Hid (Chain w C q ms) ∧ Hid (acc + ms.sum = t) ∧ acc ≤ t ∧ wr = w.drewN k) (fun _ bl _ => match bl with | .pointer (some x) => x.block + 1 | _ => 0)
  case atStart => exact ⟨B, a, ns, 0, 0, rfl, rfl, HC, Lib.hid (by have := HT.out; omega), Nat.zero_le _, rfl⟩
  case round =>
    obtain ⟨C, q, ms, acc, k, rfl, rfl, hch, hsum, hle, rfl⟩ := hrel
    cases ms with
    | nil =>
      obtain rfl : q = none := hch.out
      have e : acc = t := by have := hsum.out; simpa using this
      subst e
      go_wp2
      go_ret
      exact ⟨rfl, _, rfl⟩
    | cons n ms =>
      obtain ⟨b, p, sa, sc, x, rfl, h1, h2', h3, h4, h5, h6⟩ := hch.out
      have H6 := Lib.hid h6
      have hs := hsum.out
      simp only [List.sum_cons] at hs
      have hn1 : acc + n ≤ t := by omega
      have HS := Lib.hid (show acc + n + ms.sum = t by omega)
      clear hs hsum hch h6
      have h3' : (w.drewN k).cell? ⟨b, 0, none⟩ = some (.pointer (some ⟨p, 0, none⟩)) := h3
      have h4' : (w.drewN k).cell? ⟨b, 2, none⟩ = some (.pointer x) := h4
      have h5' : (w.drewN k).cell? ⟨p, 0, none⟩ = some (.slice sa n sc) := h5
      go_wp2
      go_roundw
      case rel => exact ⟨b, x, ms, acc + n, k, rfl, by go_num, H6, HS, hn1, rfl⟩
      case measure =>
        cases ms with
        | nil => obtain rfl : x = none := H6.out; simp
        | cons m ms =>
          obtain ⟨b2, _, _, _, _, rfl, hb2, _⟩ := H6.out
          simp
          omega
end Go.Proofs.Ytpkolfmdockdnaa
