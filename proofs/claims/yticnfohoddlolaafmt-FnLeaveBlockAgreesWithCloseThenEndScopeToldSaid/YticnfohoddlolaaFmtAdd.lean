/- The contracts of opCreateABC and of the code store's Add. -/
import Derived.Test.YticnfohoddlolaaFmtSet
import Derived.Laws.AppendOwn
import Derived.OwnWalk
namespace Go.Proofs.YticnfohoddlolaaFmt
open Go.ChangeShapes Go.WideShapes Go.ChangeAt Go.RowKit
set_option linter.unusedVariables false
set_option maxRecDepth 100000

def createv (op a b c : Int) : Int := setCv (setBv (setAv (setOpv 0 op) a) b) c

theorem create_any (op a b c : Int) (w : World) :
    Calls Tryf.prog 43 #[.int .i64 op, .int .i64 a, .int .i64 b, .int .i64 c] w fun e w' =>
      e = .returned (.int .u32 (createv op a b c)) ∧ w.alloc (.cells #[.int .u32 (createv op a b c)] 36) = w' := by
  have b1 := setOpv_bd 0 op (by omega) (by omega)
  have b2 := setAv_bd _ a b1.1 b1.2
  have b3 := setBv_bd _ b b2.1 b2.2
  go_enter Tryf.func43, Tryf.ntmps43
  go_wp2_with fail
  refine (setOp_any _ _ 0 op _ (by simp [go_sem]) (by simp [go_sem]) (by omega) (by omega)).mono ?_
  rintro e w1 ⟨rfl, rfl⟩
  go_wp2_with fail
  refine (setA_any _ _ (setOpv 0 op) a _ (by simp [go_sem]) (by simp [go_sem]) b1.1 b1.2).mono ?_
  rintro e w1 ⟨rfl, rfl⟩
  go_wp2_with fail
  refine (setB_any _ _ (setAv (setOpv 0 op) a) b _ (by simp [go_sem]) (by simp [go_sem]) b2.1 b2.2).mono ?_
  rintro e w1 ⟨rfl, rfl⟩
  go_wp2_with fail
  refine (setC_any _ _ (setBv (setAv (setOpv 0 op) a) b) c _ (by simp [go_sem]) (by simp [go_sem]) b3.1 b3.2).mono ?_
  rintro e w1 ⟨rfl, rfl⟩
  go_wp2_with fail
  go_ret
  exact ⟨rfl, by simp [go_sem, createv]⟩

/-- What an owned slice that is not empty looks like. -/
theorem own_form {w : World} {B : Nat} {T : TypeId} {v : Value} {n : Nat} {xs : List Value} (h : w.ownsRow B T 1 v n xs) (hn : 0 < n) : ∃ g cap, v = .slice (some ⟨g, 0, none⟩) n cap ∧ B ≤ g ∧ g < w.heap.size ∧ w.shape? g = some (T, cap) := by
  obtain ⟨_, h | ⟨g, cap, cur, hv, hg, hh, _, _, hs, _⟩⟩ := h
  · omega
  · exact ⟨g, cap, hv, hg, lt_of_block hh, by simp [World.shape?, hh, hs]⟩

/-- What Add leaves: everything but the store's struct and the two rows is as it was. -/
structure AddKept (c : Nat) (r0 r1 : Option Nat) (w w' : World) : Prop where
  os : w'.os = w.os
  tape : w'.tape = w.tape
  output : w'.output = w.output
  size : w.heap.size ≤ w'.heap.size
  block : ∀ k, k < w.heap.size → k ≠ c → some k ≠ r0 → some k ≠ r1 → w'.heap[k]? = w.heap[k]?

theorem infoU : (Tryf.prog.info? 36).map (fun i => (i.zero, i.size, i.bytes)) = some (some (Value.int .u32 0), 1, 4) := by kernel_rfl
theorem infoI : (Tryf.prog.info? 3).map (fun i => (i.zero, i.size, i.bytes)) = some (some (Value.int .i64 0), 1, 8) := by kernel_rfl

theorem own_ne_row {w : World} {B c m T T' : Nat} {f : Nat → Value} {v : Value} {n : Nat} {xs : List Value} (hs : w.rowIs c T m f) (h : w.ownsRow B T' 1 v n xs) (hT : T ≠ T') : v.ownBlock ≠ some c := by
  obtain ⟨_, ⟨rfl, _⟩ | ⟨g, cap, cur, rfl, _, hh, _⟩⟩ := h
  · simp [Value.ownBlock]
  · obtain ⟨cs, hc, _⟩ := hs
    intro e
    simp [Value.ownBlock] at e
    subst e
    rw [hc] at hh
    simp at hh
    exact hT hh.2
theorem own_ne_own {w : World} {B T T' : Nat} {v v' : Value} {n n' : Nat} {xs xs' : List Value} (h : w.ownsRow B T 1 v n xs) (h' : w.ownsRow B T' 1 v' n' xs') (hT : T ≠ T') : v.ownBlock = none ∨ v.ownBlock ≠ v'.ownBlock := by
  obtain ⟨_, ⟨rfl, _⟩ | ⟨g, cap, cur, rfl, _, hh, _⟩⟩ := h
  · exact .inl rfl
  right
  obtain ⟨_, ⟨rfl, _⟩ | ⟨g', cap', cur', rfl, _, hh', _⟩⟩ := h'
  · simp [Value.ownBlock]
  · intro e
    simp [Value.ownBlock] at e
    subst e
    rw [hh'] at hh
    simp at hh
    exact hT hh.2.symm

/-- Behind Add: the struct, the two rows, and what has not changed. -/
def Added (B c n : Nat) (v0 v1 : Value) (xs ys : List Value) (pc : Int) (w : World) (e : Ending) (w' : World) : Prop :=
  e = .returned (.tuple #[]) ∧ ∃ g0 g1 p0 p1, w'.rowIs c 63 3 (st3 (.slice (some ⟨g0, 0, none⟩) n p0) (.slice (some ⟨g1, 0, none⟩) n p1) (.int .i64 pc)) ∧
    w'.ownsRow B 36 1 (.slice (some ⟨g0, 0, none⟩) n p0) n xs ∧ w'.ownsRow B 3 1 (.slice (some ⟨g1, 0, none⟩) n p1) n ys ∧ AddKept c v0.ownBlock v1.ownBlock w w'

set_option maxRecDepth 100000 in
set_option maxHeartbeats 400000 in
theorem add_grow (B c n : Nat) (a0 a1 : Option Addr) (c0 c1 : Nat) (xs ys : List Value) (inst line : Int) (w : World) (hs : w.rowIs c 63 3 (st3 (.slice a0 n c0) (.slice a1 n c1) (.int .i64 n)))
    (h0 : w.ownsRow B 36 1 (.slice a0 n c0) n xs) (h1 : w.ownsRow B 3 1 (.slice a1 n c1) n ys) (hn : n ≤ 1048576) (hB : B ≤ w.heap.size) (hp : 0 < n) :
    Calls Tryf.prog 42 #[.pointer (some ⟨c, 0, none⟩), .int .u32 inst, .int .i64 line] w
      (Added B c (n + 1) (.slice a0 n c0) (.slice a1 n c1) (xs ++ [.int .u32 inst]) (ys ++ [.int .i64 line]) (n + 1) w) := by
  obtain ⟨i0, hi0, hz00, hz01, hz02⟩ := info_parts infoU
  obtain ⟨i1, hi1, hz10, hz11, hz12⟩ := info_parts infoI
  have hcl := hs.lt
  have hc0 : w.cell? ⟨c, 0, none⟩ = some (.slice a0 n c0) := hs.cell (i := 0) (by omega)
  have hc1 : w.cell? ⟨c, 1, none⟩ = some (.slice a1 n c1) := hs.cell (i := 1) (by omega)
  have hc2 : w.cell? ⟨c, 2, none⟩ = some (.int .i64 n) := hs.cell (i := 2) (by omega)
  have hf0 := hs.frozen 0
  have hf1 := hs.frozen 1
  have hf2 := hs.frozen 2
  have ne0 := own_ne_row hs h0 (by decide)
  have ne1 := own_ne_row hs h1 (by decide)
  have ne01 := own_ne_own h0 h1 (by decide)
  have ne10 := own_ne_own h1 h0 (by decide)
  go_enter Tryf.func42, Tryf.ntmps42
  go_wp2_with (at_builtin; refine wpList_append_own _ rfl (.tmp 26) (.tmp 28) 23 rfl B 36 i0 (.int .u32 0) 1 4 Tryf.underlying23 hi0 hz00 hz01 hz02 rfl (by decide) _ _ _ rfl (h0.alloc _) ⟨w.heap.size, 0, none⟩ 1 1 [.int .u32 inst] rfl rfl ?_ ?_ ?_ ?_ ?_ ?_)
  · exact cell_one_new _ _ _
  · intro u hu; simp at hu; subst hu; rfl
  · unfold maxLen; omega
  · omega
  · simp; omega
  intro v1 w1 own1 gr1 _
  obtain ⟨g1, p1, hv1, hg1B, hg1l, hsh1⟩ := own_form own1 (by omega)
  rw [hv1] at own1 ⊢
  have HV1 := Lib.hid hv1
  clear hv1
  have cl : c < (w.alloc (Obj.cells #[Value.int IntKind.u32 inst] 36)).heap.size := by simp; omega
  have hs1 := (hs.alloc (Obj.cells #[Value.int IntKind.u32 inst] 36)).of_block (gr1.block c cl (fun e => ne0 e.symm))
  have own2 := (h1.alloc (Obj.cells #[Value.int IntKind.u32 inst] 36)).kept gr1 ne10
  have sz1 := gr1.size
  simp only [World.size_alloc] at sz1
  have k0 : w1.cell? ⟨c, 0, none⟩ = some (.slice a0 n c0) := hs1.cell (i := 0) (by omega)
  have k1 : w1.cell? ⟨c, 1, none⟩ = some (.slice a1 n c1) := hs1.cell (i := 1) (by omega)
  have k2 : w1.cell? ⟨c, 2, none⟩ = some (.int .i64 n) := hs1.cell (i := 2) (by omega)
  have kf0 := hs1.frozen 0
  have kf1 := hs1.frozen 1
  have kf2 := hs1.frozen 2
  have hs2 := st3_set0 hs1 (.slice (some ⟨g1, 0, none⟩) (n + 1) p1)
  have own3 := ownsRow_setCell_other own2 (a := ⟨c, 0, none⟩) ne1 (.slice (some ⟨g1, 0, none⟩) (n + 1) p1)
  have own4 := ownsRow_setCell_other own1 (a := ⟨c, 0, none⟩) (own_ne_row hs1 own1 (by decide)) (.slice (some ⟨g1, 0, none⟩) (n + 1) p1)
  go_wp2_with (at_builtin; (refine wpList_append_own _ rfl (.tmp 36) (.tmp 38) 24 rfl B 3 i1 (.int .i64 0) 1 8 Tryf.underlying24 hi1 hz10 hz11 hz12 rfl (by decide) _ _ _ rfl (own3.alloc _) ⟨w1.heap.size, 0, none⟩ 1 1 [.int .i64 line] rfl rfl ?_ ?_ ?_ ?_ ?_ ?_))
  · have e := cell_one_new (w1.setCell ⟨c, 0, none⟩ (.slice (some ⟨g1, 0, none⟩) (n + 1) p1)) (.int .i64 line) 3
    rw [size_setC] at e
    exact e
  · intro u hu; simp at hu; subst hu; rfl
  · unfold maxLen; omega
  · omega
  · simp [size_setC]; omega
  intro v2 w3 own5 gr2 _
  obtain ⟨g2, p2, hv2, hg2B, hg2l, hsh2⟩ := own_form own5 (by omega)
  rw [hv2] at own5 ⊢
  have HV2 := Lib.hid hv2
  clear hv2
  have sz3 := gr2.size
  simp only [World.size_alloc, size_setC] at sz3
  have hs3 := (hs2.alloc (Obj.cells #[Value.int IntKind.i64 line] 3)).of_block (gr2.block c (by simp [size_setC]; omega) (fun e => ne1 e.symm))
  have own6 := (own4.alloc (Obj.cells #[Value.int IntKind.i64 line] 3)).kept gr2 (own_ne_own (own4.alloc (Obj.cells #[Value.int IntKind.i64 line] 3)) (own3.alloc (Obj.cells #[Value.int IntKind.i64 line] 3)) (by decide))
  have m0 : w3.cell? ⟨c, 0, none⟩ = some (.slice (some ⟨g1, 0, none⟩) (n + 1) p1) := hs3.cell (i := 0) (by omega)
  have m1 : w3.cell? ⟨c, 1, none⟩ = some (.slice a1 n c1) := hs3.cell (i := 1) (by omega)
  have m2 : w3.cell? ⟨c, 2, none⟩ = some (.int .i64 n) := hs3.cell (i := 2) (by omega)
  have mf0 := hs3.frozen 0
  have mf1 := hs3.frozen 1
  have mf2 := hs3.frozen 2
  clear hc0 hc1 hc2 hf0 hf1 hf2 k0 k1 k2 kf0 kf1 kf2
  go_wp2
  go_end0
  refine ⟨rfl, g1, g2, p1, p2, st3_set2 (st3_set1 hs3 _) _, ?_, ?_, ?_⟩
  · exact ownsRow_setCell_other (ownsRow_setCell_other own6 (a := ⟨c, 1, none⟩) (own_ne_row hs3 own6 (by decide)) _) (a := ⟨c, 2, none⟩) (own_ne_row hs3 own6 (by decide)) _
  · exact ownsRow_setCell_other (ownsRow_setCell_other own5 (a := ⟨c, 1, none⟩) (own_ne_row hs3 own5 (by decide)) _) (a := ⟨c, 2, none⟩) (own_ne_row hs3 own5 (by decide)) _
  · refine ⟨?_, ?_, ?_, ?_, ?_⟩
    · exact gr2.os.trans gr1.os
    · exact gr2.tape.trans gr1.tape
    · exact gr2.output.trans gr1.output
    · simp only [size_setC]; omega
    · intro k hk hkc h0 h1
      rw [Below.heap_setCell _ _ _ k hkc, Below.heap_setCell _ _ _ k hkc, gr2.block k (by simp [size_setC]; omega) h1, Below.heap_alloc _ _ k (by simp [size_setC]; omega), Below.heap_setCell _ _ _ k hkc, gr1.block k (by simp; omega) h0, Below.heap_alloc _ _ k hk]
set_option maxRecDepth 100000 in
set_option maxHeartbeats 400000 in
theorem add_first (B c : Nat) (a0 a1 : Option Addr) (c0 c1 : Nat) (xs ys : List Value) (inst line : Int) (w : World) (hs : w.rowIs c 63 3 (st3 (.slice a0 0 c0) (.slice a1 0 c1) (.int .i64 0)))
    (h0 : w.ownsRow B 36 1 (.slice a0 0 c0) 0 xs) (h1 : w.ownsRow B 3 1 (.slice a1 0 c1) 0 ys) (hn : 0 ≤ 1048576) (hB : B ≤ w.heap.size) :
    Calls Tryf.prog 42 #[.pointer (some ⟨c, 0, none⟩), .int .u32 inst, .int .i64 line] w
      (Added B c (0 + 1) (.slice a0 0 c0) (.slice a1 0 c1) (xs ++ [.int .u32 inst]) (ys ++ [.int .i64 line]) (0 + 1) w) := by
  obtain ⟨i0, hi0, hz00, hz01, hz02⟩ := info_parts infoU
  obtain ⟨i1, hi1, hz10, hz11, hz12⟩ := info_parts infoI
  have hcl := hs.lt
  have hc0 : w.cell? ⟨c, 0, none⟩ = some (.slice a0 0 c0) := hs.cell (i := 0) (by omega)
  have hc1 : w.cell? ⟨c, 1, none⟩ = some (.slice a1 0 c1) := hs.cell (i := 1) (by omega)
  have hc2 : w.cell? ⟨c, 2, none⟩ = some (.int .i64 0) := hs.cell (i := 2) (by omega)
  have hf0 := hs.frozen 0
  have hf1 := hs.frozen 1
  have hf2 := hs.frozen 2
  have ne0 := own_ne_row hs h0 (by decide)
  have ne1 := own_ne_row hs h1 (by decide)
  have ne01 := own_ne_own h0 h1 (by decide)
  have ne10 := own_ne_own h1 h0 (by decide)
  go_enter Tryf.func42, Tryf.ntmps42
  go_wp2_with (at_builtin; refine wpList_append_own _ rfl (.tmp 26) (.tmp 28) 23 rfl B 36 i0 (.int .u32 0) 1 4 Tryf.underlying23 hi0 hz00 hz01 hz02 rfl (by decide) _ _ _ rfl (h0.alloc _) ⟨w.heap.size, 0, none⟩ 1 1 [.int .u32 inst] rfl rfl ?_ ?_ ?_ ?_ ?_ ?_)
  · exact cell_one_new _ _ _
  · intro u hu; simp at hu; subst hu; rfl
  · unfold maxLen; omega
  · omega
  · simp; omega
  intro v1 w1 own1 gr1 _
  obtain ⟨g1, p1, hv1, hg1B, hg1l, hsh1⟩ := own_form own1 (by omega)
  rw [hv1] at own1 ⊢
  have HV1 := Lib.hid hv1
  clear hv1
  have cl : c < (w.alloc (Obj.cells #[Value.int IntKind.u32 inst] 36)).heap.size := by simp; omega
  have hs1 := (hs.alloc (Obj.cells #[Value.int IntKind.u32 inst] 36)).of_block (gr1.block c cl (fun e => ne0 e.symm))
  have own2 := (h1.alloc (Obj.cells #[Value.int IntKind.u32 inst] 36)).kept gr1 ne10
  have sz1 := gr1.size
  simp only [World.size_alloc] at sz1
  have k0 : w1.cell? ⟨c, 0, none⟩ = some (.slice a0 0 c0) := hs1.cell (i := 0) (by omega)
  have k1 : w1.cell? ⟨c, 1, none⟩ = some (.slice a1 0 c1) := hs1.cell (i := 1) (by omega)
  have k2 : w1.cell? ⟨c, 2, none⟩ = some (.int .i64 0) := hs1.cell (i := 2) (by omega)
  have kf0 := hs1.frozen 0
  have kf1 := hs1.frozen 1
  have kf2 := hs1.frozen 2
  have hs2 := st3_set0 hs1 (.slice (some ⟨g1, 0, none⟩) (0 + 1) p1)
  have own3 := ownsRow_setCell_other own2 (a := ⟨c, 0, none⟩) ne1 (.slice (some ⟨g1, 0, none⟩) (0 + 1) p1)
  have own4 := ownsRow_setCell_other own1 (a := ⟨c, 0, none⟩) (own_ne_row hs1 own1 (by decide)) (.slice (some ⟨g1, 0, none⟩) (0 + 1) p1)
  go_wp2_with (at_builtin; (refine wpList_append_own _ rfl (.tmp 36) (.tmp 38) 24 rfl B 3 i1 (.int .i64 0) 1 8 Tryf.underlying24 hi1 hz10 hz11 hz12 rfl (by decide) _ _ _ rfl (own3.alloc _) ⟨w1.heap.size, 0, none⟩ 1 1 [.int .i64 line] rfl rfl ?_ ?_ ?_ ?_ ?_ ?_))
  · have e := cell_one_new (w1.setCell ⟨c, 0, none⟩ (.slice (some ⟨g1, 0, none⟩) (0 + 1) p1)) (.int .i64 line) 3
    rw [size_setC] at e
    exact e
  · intro u hu; simp at hu; subst hu; rfl
  · unfold maxLen; omega
  · omega
  · simp [size_setC]; omega
  intro v2 w3 own5 gr2 _
  obtain ⟨g2, p2, hv2, hg2B, hg2l, hsh2⟩ := own_form own5 (by omega)
  rw [hv2] at own5 ⊢
  have HV2 := Lib.hid hv2
  clear hv2
  have sz3 := gr2.size
  simp only [World.size_alloc, size_setC] at sz3
  have hs3 := (hs2.alloc (Obj.cells #[Value.int IntKind.i64 line] 3)).of_block (gr2.block c (by simp [size_setC]; omega) (fun e => ne1 e.symm))
  have own6 := (own4.alloc (Obj.cells #[Value.int IntKind.i64 line] 3)).kept gr2 (own_ne_own (own4.alloc (Obj.cells #[Value.int IntKind.i64 line] 3)) (own3.alloc (Obj.cells #[Value.int IntKind.i64 line] 3)) (by decide))
  have m0 : w3.cell? ⟨c, 0, none⟩ = some (.slice (some ⟨g1, 0, none⟩) (0 + 1) p1) := hs3.cell (i := 0) (by omega)
  have m1 : w3.cell? ⟨c, 1, none⟩ = some (.slice a1 0 c1) := hs3.cell (i := 1) (by omega)
  have m2 : w3.cell? ⟨c, 2, none⟩ = some (.int .i64 0) := hs3.cell (i := 2) (by omega)
  have mf0 := hs3.frozen 0
  have mf1 := hs3.frozen 1
  have mf2 := hs3.frozen 2
  clear hc0 hc1 hc2 hf0 hf1 hf2 k0 k1 k2 kf0 kf1 kf2
  go_wp2
  go_end0
  refine ⟨rfl, g1, g2, p1, p2, st3_set2 (st3_set1 hs3 _) _, ?_, ?_, ?_⟩
  · exact ownsRow_setCell_other (ownsRow_setCell_other own6 (a := ⟨c, 1, none⟩) (own_ne_row hs3 own6 (by decide)) _) (a := ⟨c, 2, none⟩) (own_ne_row hs3 own6 (by decide)) _
  · exact ownsRow_setCell_other (ownsRow_setCell_other own5 (a := ⟨c, 1, none⟩) (own_ne_row hs3 own5 (by decide)) _) (a := ⟨c, 2, none⟩) (own_ne_row hs3 own5 (by decide)) _
  · refine ⟨?_, ?_, ?_, ?_, ?_⟩
    · exact gr2.os.trans gr1.os
    · exact gr2.tape.trans gr1.tape
    · exact gr2.output.trans gr1.output
    · simp only [size_setC]; omega
    · intro k hk hkc h0 h1
      rw [Below.heap_setCell _ _ _ k hkc, Below.heap_setCell _ _ _ k hkc, gr2.block k (by simp [size_setC]; omega) h1, Below.heap_alloc _ _ k (by simp [size_setC]; omega), Below.heap_setCell _ _ _ k hkc, gr1.block k (by simp; omega) h0, Below.heap_alloc _ _ k hk]

set_option maxRecDepth 100000 in
set_option maxHeartbeats 400000 in
theorem add_over (B c n pc g0 g1 : Nat) (c0 c1 : Nat) (xs ys : List Value) (inst line : Int) (w : World) (hs : w.rowIs c 63 3 (st3 (.slice (some ⟨g0, 0, none⟩) n c0) (.slice (some ⟨g1, 0, none⟩) n c1) (.int .i64 pc)))
    (h0 : w.ownsRow B 36 1 (.slice (some ⟨g0, 0, none⟩) n c0) n xs) (h1 : w.ownsRow B 3 1 (.slice (some ⟨g1, 0, none⟩) n c1) n ys) (hn : n ≤ 1048576) (hp : pc < n) :
    Calls Tryf.prog 42 #[.pointer (some ⟨c, 0, none⟩), .int .u32 inst, .int .i64 line] w
      (Added B c n (.slice (some ⟨g0, 0, none⟩) n c0) (.slice (some ⟨g1, 0, none⟩) n c1) (xs.set pc (.int .u32 inst)) (ys.set pc (.int .i64 line)) (pc + 1) w) := by
  have hcl := hs.lt
  have hc0 : w.cell? ⟨c, 0, none⟩ = some (.slice (some ⟨g0, 0, none⟩) n c0) := hs.cell (i := 0) (by omega)
  have hc1 : w.cell? ⟨c, 1, none⟩ = some (.slice (some ⟨g1, 0, none⟩) n c1) := hs.cell (i := 1) (by omega)
  have hc2 : w.cell? ⟨c, 2, none⟩ = some (.int .i64 pc) := hs.cell (i := 2) (by omega)
  have hf2 := hs.frozen 2
  have ne0 : g0 ≠ c := by have := own_ne_row hs h0 (by decide); simpa [Value.ownBlock] using this
  have ne1 : g1 ≠ c := by have := own_ne_row hs h1 (by decide); simpa [Value.ownBlock] using this
  have ne01 : g0 ≠ g1 := by have := own_ne_own h0 h1 (by decide); simpa [Value.ownBlock] using this
  obtain ⟨u0, e0⟩ : ∃ u, w.cell? ⟨g0, pc, none⟩ = some u := ⟨xs[pc]'(by have := h0.1; omega), by rw [h0.cellAt pc (by omega)]; exact List.getElem?_eq_getElem _⟩
  obtain ⟨u1, e1⟩ : ∃ u, w.cell? ⟨g1, pc, none⟩ = some u := ⟨ys[pc]'(by have := h1.1; omega), by rw [h1.cellAt pc (by omega)]; exact List.getElem?_eq_getElem _⟩
  have f0 := h0.frozenAt pc
  have f1 := h1.frozenAt pc
  have o0 := (h0.stored pc (.int .u32 inst)).1
  have h1' := ownsRow_setCell_other h1 (a := ⟨g0, pc, none⟩) (by simp [Value.ownBlock]; omega) (.int .u32 inst)
  have o1 := (h1'.stored pc (.int .i64 line)).1
  have o0' := ownsRow_setCell_other o0 (a := ⟨g1, pc, none⟩) (by simp [Value.ownBlock]; omega) (.int .i64 line)
  have hs1 := (hs.setOther (a := ⟨g0, pc, none⟩) (show c ≠ g0 by omega) (.int .u32 inst)).setOther (a := ⟨g1, pc, none⟩) (show c ≠ g1 by omega) (.int .i64 line)
  clear h1' o0
  have hd' : ((pc : Int) == (n : Int)) = false := by simp; omega
  have hpi : (pc : Int) < (n : Int) := by omega
  go_enter Tryf.func42, Tryf.ntmps42
  go_wp2
  go_region
  go_wp2
  go_region
  go_wp2
  go_end0
  refine ⟨rfl, g0, g1, c0, c1, st3_set2 hs1 _, ?_, ?_, ?_⟩
  · exact ownsRow_setCell_other o0' (a := ⟨c, 2, none⟩) (own_ne_row hs1 o0' (by decide)) _
  · exact ownsRow_setCell_other o1 (a := ⟨c, 2, none⟩) (own_ne_row hs1 o1 (by decide)) _
  · refine ⟨rfl, rfl, rfl, by simp, ?_⟩
    intro k hk hkc h0 h1
    simp [Value.ownBlock] at h0 h1
    exact (Below.heap_setCell ((w.setCell ⟨g0, pc, none⟩ (.int .u32 inst)).setCell ⟨g1, pc, none⟩ (.int .i64 line)) ⟨c, 2, none⟩ _ k hkc).trans ((Below.heap_setCell (w.setCell ⟨g0, pc, none⟩ (.int .u32 inst)) ⟨g1, pc, none⟩ _ k h1).trans (Below.heap_setCell w ⟨g0, pc, none⟩ _ k h0))
end Go.Proofs.YticnfohoddlolaaFmt
