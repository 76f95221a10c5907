/- varNamePool.List and EndScope (n005_43): which debug infos are stamped. -/
import Derived.Test.YticnfohoddlolaaFmtEs
import Derived.Test.YticnfohoddlolaaFmtEr
import Derived.Laws.MakeOwn
import Derived.Laws.Entries
import Derived.StillTailTactics
namespace Go.Proofs.YticnfohoddlolaaFmt
open Go.ChangeShapes Go.WideShapes Go.ChangeAt Go.RowKit
set_option linter.unusedVariables false
set_option maxRecDepth 100000

theorem run_make_rowN {P : Program} (t e : TypeId) (i : TypeInfo) (z : Value) (ht : P.underlying t = some (.slice e)) (hi : P.info? e = some i) (hz : i.zero = some z)
    (kl kc : IntKind) (n c : Nat) (hnc : n ≤ c) (hbytes : i.bytes * c ≤ 281474976710656) (h63 : c ≤ 9223372036854775807) (w : World) :
    (Instr.makeSlice t (.int kl (n : Int)) (.int kc (c : Int))).run P w = .ok (.slice (some ⟨w.heap.size, 0, none⟩) n c) (w.alloc (.cells (madeCells z.cells (c * i.size)) e)) := by
  have hb : (i.bytes : Int) * (c : Int) ≤ 281474976710656 := by
    have h : ((i.bytes * c : Nat) : Int) ≤ 281474976710656 := by omega
    rwa [Int.natCast_mul] at h
  have hr := run_make (P := P) w t e i z ht hi hz kl kc n c (by omega) (by omega) hb (by omega)
  simp only [Int.toNat_natCast] at hr
  exact hr
theorem infoVV : (Tryf.prog.info? 76).map (fun i => (i.zero, i.size, i.bytes)) = some (some (.agg #[.int .i64 0, .string ByteArray.empty]), 2, 24) := by kernel_rfl
theorem makeVV (n : Nat) (hn : n ≤ 1048576) (w : World) : (Instr.makeSlice 73 (.int .i64 (n : Int)) (.int .i64 (n : Int))).run Tryf.prog w = .ok (.slice (some ⟨w.heap.size, 0, none⟩) n n) (w.alloc (.cells (madeCells #[.int .i64 0, .string ByteArray.empty] (n * 2)) 76)) := by
  obtain ⟨i, hi, hzz⟩ := Option.map_eq_some_iff.1 infoVV
  simp only [Prod.mk.injEq] at hzz
  obtain ⟨hz, hs, hb⟩ := hzz
  have := run_make_rowN (P := Tryf.prog) 73 76 i _ Tryf.underlying73 hi hz .i64 .i64 n n (Nat.le_refl _) (by rw [hb]; omega) (by omega) w
  rw [hs] at this
  exact this
/-- The cells of a row of indexed names, made as far as k. -/
def vf (off : Int) (zs : List ByteArray) (k : Nat) (c : Nat) : Value := if c % 2 = 0 then .int .i64 (if c / 2 < k then off + (c / 2 : Nat) else 0) else .string (if c / 2 < k then zs.getD (c / 2) ByteArray.empty else ByteArray.empty)
theorem madeVV (w : World) (n : Nat) (off : Int) (zs : List ByteArray) : (w.alloc (.cells (madeCells #[.int .i64 0, .string ByteArray.empty] (n * 2)) 76)).rowIs w.heap.size 76 (n * 2) (vf off zs 0) := by
  have := World.rowIs_alloc w (madeCells #[.int .i64 0, .string ByteArray.empty] (n * 2)) 76 (vf off zs 0) (fun i hi => by
    rw [size_madeCells] at hi
    have h2 : i % 2 = 0 ∨ i % 2 = 1 := by omega
    rcases h2 with h | h <;> simp [madeCells, vf, hi, h])
  rwa [size_madeCells] at this

set_option maxHeartbeats 1000000 in
theorem list_any (q ni mi : Nat) (off : Int) (ai : Option Addr) (zs : List ByteArray) (w : World) (q0 : w.cell? ⟨q, 0, none⟩ = some (.slice ai ni mi)) (q1 : w.cell? ⟨q, 1, none⟩ = some (.int .i64 off)) (r : IsRow .string ByteArray.empty w ai ni mi zs) (hn : ni ≤ 65536) (h0 : 0 ≤ off) (h1 : off ≤ 4294967296) :
    Calls Tryf.prog 35 #[.pointer (some ⟨q, 0, none⟩)] w fun e w' => ∃ G, e = .returned (.slice (some ⟨G, 0, none⟩) ni ni) ∧ w.heap.size ≤ G ∧ w'.rowIs G 76 (ni * 2) (vf off zs ni) ∧ Below w.heap.size w w' := by
  have hmk := makeVV ni (by omega)
  have hql := cell_block_lt q0
  have R := Lib.hid r
  clear r
  go_enter Tryf.func35, Tryf.ntmps35
  go_wp2
  go_still_tail 10, (by kernel_rfl)
  go_wp2
  have M := madeVV w ni off zs
  have bb : Below w.heap.size w (w.alloc (.cells (madeCells #[.int .i64 0, .string ByteArray.empty] (ni * 2)) 76)).drew := ((Below.refl w.heap.size w).alloc (Nat.le_refl _) _).drew
  replace M : World.rowIs (w.alloc (.cells (madeCells #[.int .i64 0, .string ByteArray.empty] (ni * 2)) 76)).drew w.heap.size 76 (ni * 2) (vf off zs 0) := M
  obtain ⟨G, hG⟩ : ∃ G, w.heap.size = G := ⟨_, rfl⟩
  obtain ⟨w1, h1⟩ : ∃ v, (w.alloc (.cells (madeCells #[.int .i64 0, .string ByteArray.empty] (ni * 2)) 76)).drew = v := ⟨_, rfl⟩
  rw [hG] at M ⊢
  rw [h1] at M bb ⊢
  have hGw : w.heap.size ≤ G := by omega
  have Q1 := Lib.hid q1
  clear h1 hmk q0 q1 hG
  go_loopw [22] (fun i wr => ∃ k : Nat, k ≤ ni ∧ i = .int .i64 k ∧ Hid (wr.rowIs G 76 (ni * 2) (vf off zs k)) ∧ Below w.heap.size w wr) (fun i _ => ni - (intOf i).toNat)
  case atStart => exact ⟨0, Nat.zero_le _, rfl, Lib.hid M, bb⟩
  case round =>
    obtain ⟨k, hk, rfl, RK, hbel⟩ := hrel
    by_cases hlt : k < ni
    · obtain ⟨b0, off0, hx0, hb0, hc0⟩ := row_some R.out (by omega)
      obtain ⟨s, hs⟩ : ∃ s, zs.getD k ByteArray.empty = s := ⟨_, rfl⟩
      have hcell : wr.cell? ⟨b0, off0 + k, none⟩ = some (.string s) := by rw [← hs]; exact (hbel.cell (p := ⟨b0, off0 + k, none⟩) hb0).trans (hc0 k hlt)
      have HS := Lib.hid hs
      have HX := Lib.hid hx0
      rw [hx0]
      have q1 : wr.cell? ⟨q, 1, none⟩ = some (.int .i64 off) := (hbel.cell (p := ⟨q, 1, none⟩) hql).trans Q1.out
      clear hs hx0 hc0
      have hlt' : (k : Int) < (ni : Int) := by omega
      have d0 := RK.out.cell (i := k * 2) (by omega)
      have d1 := RK.out.cell (i := k * 2 + 1) (by omega)
      have f0 := RK.out.frozen (k * 2)
      have f1 := RK.out.frozen (k * 2 + 1)
      go_wp2
      go_roundw
      case rel =>
        refine ⟨k + 1, by omega, by go_num, Lib.hid (((RK.out.set (k * 2) _).set (k * 2 + 1) _).congr fun c hc => ?_), (hbel.setCell (p := ⟨G, k * 2, none⟩) hGw _).setCell (p := ⟨G, k * 2 + 1, none⟩) hGw _⟩
        have hS := HS.out
        unfold vf
        by_cases e1 : c = k * 2 + 1
        · subst e1
          rw [if_pos rfl, if_neg (by omega), if_pos (by omega), show (k * 2 + 1) / 2 = k by omega, hS]
        · rw [if_neg e1]
          by_cases e0 : c = k * 2
          · subst e0
            rw [if_pos rfl, if_pos (by omega), if_pos (by omega), show k * 2 / 2 = k by omega]
            congr 1
            omega
          · rw [if_neg e0]
            have h2 : (c / 2 < k + 1) = (c / 2 < k) := propext ⟨fun h => by omega, fun h => by omega⟩
            simp only [h2]
      case measure => simp [intOf]; omega
    · obtain rfl : ni = k := by omega
      go_wp2
      go_ret
      exact ⟨G, rfl, hGw, RK.out, hbel⟩

/-- What EndScope leaves of debug info i. -/
def stamp (lo hi : Int) (pc : Int) (e : Int) (i : Nat) : Int := if lo ≤ i ∧ (i : Int) < hi then pc - 1 else e
/-- The debug infos: pointers at g, infos behind it. -/
def Infos (w : World) (g nd : Nat) (e : Nat → Int) : Prop := w.rowIs g 41 nd (fun i => .pointer (some ⟨g + 1 + i, 0, none⟩)) ∧ ∀ i, i < nd → w.rowIs (g + 1 + i) 40 3 (lf [.string ByteArray.empty, .int .i64 i, .int .i64 (e i)])
/-- Behind EndScope: blocks g+1 to g+nd stamped, all else as it was. -/
def Ended (g nd : Nat) (e : Nat → Int) (lo hi pc : Int) (w : World) (en : Ending) (w' : World) : Prop :=
  en = .returned (.tuple #[]) ∧ Infos w' g nd (fun i => stamp lo hi pc (e i) i) ∧ w.heap.size ≤ w'.heap.size ∧ w'.os = w.os ∧ w'.tape = w.tape ∧ w'.output = w.output ∧ ∀ q, q < w.heap.size → q ≤ g ∨ g + nd < q → w'.heap[q]? = w.heap[q]?

theorem keepC {w w' : World} {B : Nat} {p : Addr} {v : Value} (b : Below B w w') (h : w.cell? p = some v) (hB : B = w.heap.size := by rfl) : w'.cell? p = some v := by
  subst hB
  exact (b.cell (cell_block_lt h)).trans h
theorem lastPC_any (c : Nat) (pc : Int) (w : World) (hc : w.cell? ⟨c, 2, none⟩ = some (.int .i64 pc)) (h0 : 0 ≤ pc) (h1 : pc ≤ 1048576) : Calls Tryf.prog 36 #[.pointer (some ⟨c, 0, none⟩)] w fun e w' => e = .returned (.int .i64 (pc - 1)) ∧ w' = w := by
  go_enter Tryf.func36, Tryf.ntmps36
  go_wp2
  go_ret
  exact ⟨rfl, rfl⟩

set_option maxHeartbeats 2000000 in
theorem endScope_any (h : Nat) (ref : Bool) (po : Int) (an : Option Addr) (nn mn : Nat) (ai : Option Addr) (ni mi : Nat) (last : Int) (g nd md : Nat) (rt : Int) (zs : List ByteArray) (e : Nat → Int) (pc : Int) (w : World)
    (H : FC0 w h ref po an nn mn ai ni mi last (some ⟨g, 0, none⟩) nd md (h + 3) rt) (hp0 : 0 ≤ po) (hp1 : po ≤ 65536) (hnn : nn ≤ 65536) (hni : ni ≤ 65536) (r : IsRow .string ByteArray.empty w ai ni mi zs) (hc : w.cell? ⟨h + 5, 2, none⟩ = some (.int .i64 pc)) (hpc0 : 0 ≤ pc) (hpc1 : pc ≤ 1048576)
    (I : Infos w g nd e) (hgh : g + nd < h) (hhi : po + nn + ni ≤ nd) :
    Calls Tryf.prog 29 #[.pointer (some ⟨h + 9, 0, none⟩)] w (Ended g nd e (po + nn) (po + nn + ni) pc w) := by
  have c4 : w.cell? ⟨h + 9, 4, none⟩ = some (.pointer (some ⟨h + 3, 0, none⟩)) := H.fc.cell (i := 4) (by omega)
  have b0 : w.cell? ⟨h + 3, 0, none⟩ = some (.pointer (some ⟨h + 2, 0, none⟩)) := H.bi.cell (i := 0) (by omega)
  have q0 : w.cell? ⟨h + 2, 0, none⟩ = some (.slice ai ni mi) := H.pi.cell (i := 0) (by omega)
  have q1 : w.cell? ⟨h + 2, 1, none⟩ = some (.int .i64 (po + nn)) := H.pi.cell (i := 1) (by omega)
  go_enter Tryf.func29, Tryf.ntmps29
  go_wp2_with fail
  refine (list_any (h + 2) ni mi (po + nn) ai zs _ q0 q1 r hni (by omega) (by omega)).mono ?_
  rintro en w1 ⟨G, rfl, hG, RG, b1⟩
  have H1 := Lib.hid (H.below b1)
  have hc1 := Lib.hid ((b1.cell (p := ⟨h + 5, 2, none⟩) (cell_block_lt hc)).trans hc)
  have hHl := H.fc.lt
  have I1 := Lib.hid (show Infos w1 g nd (fun i => stamp (po + nn) (po + nn + (0 : Nat)) pc (e i) i) from ⟨I.1.of_block (b1.block _ I.1.lt), fun i hi => ((I.2 i hi).of_block (b1.block _ (I.2 i hi).lt)).congr fun c hcc => by
    have : stamp (po + nn) (po + nn + (0 : Nat)) pc (e i) i = e i := by unfold stamp; rw [if_neg (by omega)]
    simp only [this]⟩)
  have RH := Lib.hid RG
  have s1 := b1.size
  have o1 := Lib.hid b1.os
  have t1 := Lib.hid b1.tape
  have u1 := Lib.hid b1.output
  have k1 := Lib.hid (show ∀ q, q < w.heap.size → q ≤ g ∨ g + nd < q → w1.heap[q]? = w.heap[q]? from fun q hq _ => b1.block q hq)
  clear H r hc I RG b1 c4 b0 q0 q1
  go_wp2_with fail
  obtain ⟨p, rfl⟩ := Int.eq_ofNat_of_zero_le hp0
  have kG : G < w1.heap.size := RH.out.lt
  go_loopw [13] (fun i wr => ∃ k : Nat, k ≤ ni ∧ i = .int .i64 k ∧ Hid (FC0 wr h ref p an nn mn ai ni mi last (some ⟨g, 0, none⟩) nd md (h + 3) rt) ∧ Hid (wr.cell? ⟨h + 5, 2, none⟩ = some (.int .i64 pc)) ∧ Hid (Infos wr g nd (fun i => stamp (p + nn) (p + nn + k) pc (e i) i)) ∧
    Hid (wr.rowIs G 76 (ni * 2) (vf (p + nn) zs ni)) ∧ w1.heap.size ≤ wr.heap.size ∧ Hid (wr.os = w.os) ∧ Hid (wr.tape = w.tape) ∧ Hid (wr.output = w.output) ∧ Hid (∀ q, q < w.heap.size → q ≤ g ∨ g + nd < q → wr.heap[q]? = w.heap[q]?)) (fun i _ => ni - (intOf i).toNat)
  case atStart => exact ⟨0, Nat.zero_le _, rfl, H1, hc1, I1, RH, Nat.le_refl _, o1, t1, u1, Lib.hid k1.out⟩
  case round =>
    obtain ⟨k, hk, rfl, HK, CK, IK, RK, sk, ok, tk, uk, kk⟩ := hrel
    by_cases hlt : k < ni
    · obtain ⟨q, hq⟩ : ∃ q, p + nn + k = q := ⟨_, rfl⟩
      have hqn : q < nd := by omega
      obtain ⟨s, hs⟩ : ∃ s, zs.getD k ByteArray.empty = s := ⟨_, rfl⟩
      have v0 : wr.cell? ⟨G, k * 2, none⟩ = some (.int .i64 q) := by
        have := RK.out.cell (i := k * 2) (by omega)
        unfold vf at this
        rw [if_pos (by omega), show k * 2 / 2 = k by omega, if_pos hlt] at this
        rw [this, ← hq]
        congr 2
      have v1 : wr.cell? ⟨G, k * 2 + 1, none⟩ = some (.string s) := by
        have := RK.out.cell (i := k * 2 + 1) (by omega)
        unfold vf at this
        rw [if_neg (by omega), show (k * 2 + 1) / 2 = k by omega, if_pos hlt] at this
        rw [this, ← hs]
      have HQ := Lib.hid hq
      clear hs hq
      have hlt' : (k : Int) < (ni : Int) := by omega
      have c0 : wr.cell? ⟨h + 9, 0, none⟩ = some (.pointer (some ⟨h + 4, 0, none⟩)) := HK.out.fc.cell (i := 0) (by omega)
      have c1 : wr.cell? ⟨h + 9, 1, none⟩ = some (.pointer (some ⟨h + 5, 0, none⟩)) := HK.out.fc.cell (i := 1) (by omega)
      have p11 : wr.cell? ⟨h + 4, 11, none⟩ = some (.slice (some ⟨g, 0, none⟩) nd md) := HK.out.pr.cell (i := 11) (by omega)
      have gq : wr.cell? ⟨g, q, none⟩ = some (.pointer (some ⟨g + 1 + q, 0, none⟩)) := IK.out.1.cell (i := q) hqn
      have t2 := (IK.out.2 q hqn).cell (i := 2) (by omega)
      have f2 := (IK.out.2 q hqn).frozen 2
      have lG := RK.out.lt
      have l1 : h + 9 < wr.heap.size := HK.out.fc.lt
      have hqn' : (q : Int) < (nd : Int) := by omega
      go_wp2
      obtain ⟨L, hL⟩ : ∃ L, wr.heap.size = L := ⟨_, rfl⟩
      have n0 : (wr.alloc (.cells #[.int .i64 q, .string s] 76)).cell? ⟨L, 0, none⟩ = some (.int .i64 q) := by rw [← hL]; simp [go_sem]
      have ex := (Below.refl wr.heap.size wr).alloc (Nat.le_refl _) (.cells #[.int .i64 q, .string s] 76)
      have c0' := keepC ex c0
      have c1' := keepC ex c1
      have p11' := keepC ex p11
      have gq' := keepC ex gq
      have t2' := keepC ex t2
      have ck' := keepC ex CK.out
      have f2' := (((IK.out.2 q hqn).alloc (.cells #[.int .i64 q, .string s] 76)).frozen 2)
      have sz2 : (wr.alloc (.cells #[.int .i64 q, .string s] 76)).heap.size = L + 1 := by rw [← hL]; simp
      have EX := Lib.hid ex
      obtain ⟨w2, h2⟩ : ∃ v, wr.alloc (.cells #[.int .i64 q, .string s] 76) = v := ⟨_, rfl⟩
      rw [hL] at EX l1 lG sk ⊢
      rw [h2] at n0 c0' c1' p11' gq' t2' ck' f2' sz2 EX ⊢
      clear c0 c1 p11 gq t2 f2 v0 v1 ex h2
      go_still_tail 18, (by kernel_rfl)
      still_call (lastPC_any (h + 5) pc w2.drew ck' hpc0 hpc1)
      repeat still_step
      refine wpStill_nil ?_
      go_wp2
      have hk2 : ∀ c, c < L → c ≠ g + 1 + q → (w2.setCell ⟨g + 1 + q, 2, none⟩ (.int .i64 (pc - 1))).drew.heap[c]? = wr.heap[c]? := fun c hc hne => (Below.heap_setCell _ _ _ _ hne).trans (EX.out.block c (by omega))
      have zz : (w2.setCell ⟨g + 1 + q, 2, none⟩ (.int .i64 (pc - 1))).drew.heap.size = w2.heap.size := size_setC w2 _ _
      go_roundw
      case rel =>
        have hq := HQ.out
        refine ⟨k + 1, by omega, by go_num, Lib.hid (HK.out.keep fun c ha hb hc => hk2 c (by omega) (by omega)), Lib.hid ((World.cell?_of_block (a := ⟨h + 5, 2, none⟩) (hk2 (h + 5) (by omega) (by omega))).trans CK.out), Lib.hid ⟨IK.out.1.of_block (hk2 g (by omega) (by omega)), fun i hi => ?_⟩,
          Lib.hid (RK.out.of_block (hk2 G (by omega) (by omega))), by omega, Lib.hid (EX.out.os.trans ok.out), Lib.hid (EX.out.tape.trans tk.out), Lib.hid (EX.out.output.trans uk.out), Lib.hid (fun c hc hor => (hk2 c (by omega) (by omega)).trans (kk.out c hc hor))⟩
        by_cases e1 : i = q
        · subst e1
          have R2 : w2.rowIs (g + 1 + i) 40 3 _ := (IK.out.2 i hqn).of_block (EX.out.block _ (by omega))
          refine World.rowIs.of_block ((R2.set 2 (.int .i64 (pc - 1))).congr fun c hc => ?_) rfl
          have hst : stamp (p + nn) (p + nn + (k + 1 : Nat)) pc (e i) i = pc - 1 := by unfold stamp; rw [if_pos (by omega)]
          simp only [hst]
          match c, hc with
          | 0, _ => rfl
          | 1, _ => rfl
          | 2, _ => rfl
        · have hst : stamp (p + nn) (p + nn + (k + 1 : Nat)) pc (e i) i = stamp (p + nn) (p + nn + k) pc (e i) i := by
            unfold stamp
            by_cases e2 : (p : Int) + nn ≤ i ∧ (i : Int) < p + nn + k
            · rw [if_pos e2, if_pos (by omega)]
            · rw [if_neg e2, if_neg (by omega)]
          have := (IK.out.2 i hi).of_block (hk2 (g + 1 + i) (by omega) (by omega))
          simp only [hst]
          exact this
      case measure => simp [intOf]; omega
    · obtain rfl : ni = k := by omega
      go_wp2
      go_end0
      exact ⟨rfl, IK.out, by omega, ok.out, tk.out, uk.out, kk.out⟩

theorem zzEnd_any (h : Nat) (ref : Bool) (po : Int) (an : Option Addr) (nn mn : Nat) (ai : Option Addr) (ni mi : Nat) (last : Int) (g nd md : Nat) (rt : Int) (zs : List ByteArray) (e : Nat → Int) (pc : Int) (w : World)
    (H : FC0 w h ref po an nn mn ai ni mi last (some ⟨g, 0, none⟩) nd md (h + 3) rt) (hp0 : 0 ≤ po) (hp1 : po ≤ 65536) (hnn : nn ≤ 65536) (hni : ni ≤ 65536) (r : IsRow .string ByteArray.empty w ai ni mi zs) (hc : w.cell? ⟨h + 5, 2, none⟩ = some (.int .i64 pc)) (hpc0 : 0 ≤ pc) (hpc1 : pc ≤ 1048576)
    (I : Infos w g nd e) (hgh : g + nd < h) (hhi : po + nn + ni ≤ nd) :
    Calls Tryf.prog 16 #[.pointer (some ⟨h + 9, 0, none⟩)] w (Ended g nd e (po + nn) (po + nn + ni) pc w) := by
  go_enter Tryf.func16, Tryf.ntmps16
  go_wp2_with fail
  refine (endScope_any h ref po an nn mn ai ni mi last g nd md rt zs e pc _ H hp0 hp1 hnn hni r hc hpc0 hpc1 I hgh hhi).mono ?_
  rintro en w1 ⟨rfl, q⟩
  have Q := Lib.hid q
  clear q
  go_wp2_with fail
  go_end0
  exact ⟨rfl, Q.out⟩
end Go.Proofs.YticnfohoddlolaaFmt
