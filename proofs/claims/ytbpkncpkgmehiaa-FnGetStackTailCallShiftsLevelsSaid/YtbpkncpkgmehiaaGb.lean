/- The makers of n005_55: a frame set, a stack made, a state. -/
import Derived.Test.YtbpkncpkgmehiaaGs
import Derived.Lib.LazyBuf
namespace Go.Proofs.Ytbpkncpkgmehiaa.gs
open Go.ChangeShapes Go.WideShapes Go.ChangeAt Go.RowKit
set_option linter.unusedVariables false
set_option maxRecDepth 100000
attribute [local go_sem] run_store_iface run_store_nilIface

theorem run_make_rowN {P : Program} (t e : TypeId) (i : TypeInfo) (z : Value) (ht : P.underlying t = some (.slice e)) (hi : P.info? e = some i) (hz : i.zero = some z)
    (kl kc : IntKind) (n c : Nat) (hnc : n ≤ c) (hbytes : i.bytes * c ≤ 281474976710656) (h63 : c ≤ 9223372036854775807) (w : World) :
    (Instr.makeSlice t (.int kl (n : Int)) (.int kc (c : Int))).run P w = .ok (.slice (some ⟨w.heap.size, 0, none⟩) n c) (w.alloc (.cells (madeCells z.cells (c * i.size)) e)) := by
  have hb : (i.bytes : Int) * (c : Int) ≤ 281474976710656 := by
    have h : ((i.bytes * c : Nat) : Int) ≤ 281474976710656 := by omega
    rwa [Int.natCast_mul] at h
  have hr := run_make (P := P) w t e i z ht hi hz kl kc n c (by omega) (by omega) hb (by omega)
  simp only [Int.toNat_natCast] at hr
  exact hr
/-- A frame's cells. -/
def frame (i : Nat) (fb : Nat) (pa : Option Addr) (base tail : Int) : List Value := [.int .i64 i, .pointer (some ⟨fb, 0, none⟩), .pointer pa, .int .i64 0, .int .i64 0, .int .i64 1, .int .i64 0, .int .i64 0, .int .i64 0, .int .i64 tail]
abbrev zframe : Array Value := #[.int .i64 0, .pointer none, .pointer none, .int .i64 0, .int .i64 0, .int .i64 0, .int .i64 0, .int .i64 0, .int .i64 0, .int .i64 0]
theorem infoCF : (Try.prog.info? 83).map (fun i => (i.zero, i.size, i.bytes)) = some (some (.agg zframe), 10, 80) := by kernel_rfl
theorem makeCF (n : Nat) (hn : n ≤ 4096) (w : World) : (Instr.makeSlice 79 (.int .i64 (n : Int)) (.int .i64 (n : Int))).run Try.prog w = .ok (.slice (some ⟨w.heap.size, 0, none⟩) n n) (w.alloc (.cells (madeCells zframe (n * 10)) 83)) := by
  obtain ⟨i, hi, hzz⟩ := Option.map_eq_some_iff.1 infoCF
  simp only [Prod.mk.injEq] at hzz
  obtain ⟨hz, hs, hb⟩ := hzz
  have := run_make_rowN (P := Try.prog) 79 83 i _ Try.underlying79 hi hz .i64 .i64 n n (Nat.le_refl _) (by rw [hb]; omega) (by omega) w
  rw [hs] at this
  exact this
theorem there_made (w : World) (l : Array Value) (T n : Nat) (h : l.size = n) : (w.alloc (.cells l T)).there w.heap.size 0 n := by
  have := World.rowIs_alloc w l T (fun i => l.getD i undef) (fun i hi => by simp [hi])
  intro j hj
  rw [Nat.zero_add]
  exact ⟨by rw [this.cell (by omega)]; rfl, this.frozen j⟩
theorem run_make0 (w : World) : (Instr.makeSlice 36 (.int .i64 0) (.int .i64 0)).run Try.prog w = .ok (.slice (some ⟨w.heap.size, 0, none⟩) 0 0) (w.alloc (.cells #[] 77)) := by kernel_rfl

theorem setFrame_any (CS FB d i : Nat) (pa : Option Addr) (fb : Nat) (tail : Int) (w : World) (c0 : w.cell? ⟨CS, 0, none⟩ = some (.slice (some ⟨FB, 0, none⟩) d d)) (hi : i < d) (hd : d ≤ 4096) (h0 : 0 ≤ tail) (h1 : tail ≤ 65537)
    (ht : w.there FB (i * 10) 10) (hne : CS ≠ FB) :
    Calls Try.prog 25 #[.pointer (some ⟨CS, 0, none⟩), .int .i64 i, .pointer pa, .pointer (some ⟨fb, 0, none⟩), .int .i64 tail, .int .i64 0] w fun e w' => e = .returned (.pointer (some ⟨FB, i * 10, none⟩)) ∧ w' = w.setCells FB (i * 10) (frame i fb pa 0 tail) := by
  have hcell : ∀ j, j < 10 → ∃ v, w.cell? ⟨FB, i * 10 + j, none⟩ = some v := fun j hj => Option.isSome_iff_exists.1 (ht j hj).1
  have hfr : ∀ j, j < 10 → w.frozen? ⟨FB, i * 10 + j, none⟩ = false := fun j hj => (ht j hj).2
  obtain ⟨x0, k0⟩ := hcell 0 (by omega)
  obtain ⟨x1, k1⟩ := hcell 1 (by omega)
  obtain ⟨x2, k2⟩ := hcell 2 (by omega)
  obtain ⟨x3, k3⟩ := hcell 3 (by omega)
  obtain ⟨x4, k4⟩ := hcell 4 (by omega)
  obtain ⟨x5, k5⟩ := hcell 5 (by omega)
  obtain ⟨x6, k6⟩ := hcell 6 (by omega)
  obtain ⟨x7, k7⟩ := hcell 7 (by omega)
  obtain ⟨x8, k8⟩ := hcell 8 (by omega)
  obtain ⟨x9, k9⟩ := hcell 9 (by omega)
  have f0 := hfr 0 (by omega)
  have f1 := hfr 1 (by omega)
  have f2 := hfr 2 (by omega)
  have f3 := hfr 3 (by omega)
  have f4 := hfr 4 (by omega)
  have f5 := hfr 5 (by omega)
  have f6 := hfr 6 (by omega)
  have f7 := hfr 7 (by omega)
  have f8 := hfr 8 (by omega)
  have f9 := hfr 9 (by omega)
  rw [Nat.add_zero] at k0 f0
  clear ht hcell hfr
  go_enter Try.func25, Try.ntmps25
  go_wp2_with fail
  go_ret
  exact ⟨rfl, rfl⟩

theorem newStack_any (d : Nat) (w : World) (hd : d ≤ 4096) :
    Calls Try.prog 23 #[.int .i64 d] w fun e w' => ∃ CS FB, e = .returned (.pointer (some ⟨CS, 0, none⟩)) ∧ CS ≠ FB ∧ w.heap.size ≤ FB ∧ w.heap.size ≤ CS ∧ w'.cell? ⟨CS, 0, none⟩ = some (.slice (some ⟨FB, 0, none⟩) d d) ∧ w'.cell? ⟨CS, 1, none⟩ = some (.int .i64 d) ∧ w'.there FB 0 (d * 10) ∧ Below w.heap.size w w' := by
  have hmk := makeCF d hd
  go_enter Try.func23, Try.ntmps23
  go_wp2_with fail
  go_ret
  have S := lf_at (w.alloc (.cells (madeCells zframe (d * 10)) 83)) [.slice (some ⟨w.heap.size, 0, none⟩) d d, .int .i64 d] 81 _ rfl
  have s0 := S.cell (i := 0) (by simp)
  have s1 := S.cell (i := 1) (by simp)
  rw [World.size_alloc] at s0 s1
  exact ⟨_, w.heap.size, rfl, by omega, Nat.le_refl _, by omega, s0, s1, World.there_alloc (there_made w _ _ _ (by rw [size_madeCells])) _, ((Below.refl w.heap.size w).alloc (Nat.le_refl _) _).alloc (by rw [World.size_alloc]; omega) _⟩

theorem newReg_any (w : World) :
    Calls Try.prog 27 #[.int .i64 0] w fun e w' => ∃ q, e = .returned (.pointer (some ⟨q, 0, none⟩)) ∧ Below w.heap.size w w' := by
  have hmk := run_make0
  go_enter Try.func27, Try.ntmps27
  go_wp2_with fail
  go_ret
  exact ⟨_, rfl, ((Below.refl w.heap.size w).alloc (Nat.le_refl _) _).alloc (by simp) _⟩

theorem newState_any (a b c : Option Addr) (w : World) :
    Calls Try.prog 26 #[.pointer a, .pointer b, .pointer c] w fun e w' => ∃ LS, e = .returned (.pointer (some ⟨LS, 0, none⟩)) ∧ w.heap.size ≤ LS ∧ w'.cell? ⟨LS, 14, none⟩ = some (.iface 46 (.pointer a)) ∧ w'.cell? ⟨LS, 16, none⟩ = some (.pointer b) ∧ Below w.heap.size w w' := by
  go_enter Try.func26, Try.ntmps26
  go_wp2_with fail
  go_ret
  have G := fun l => lf_at w l 97 _ rfl
  refine ⟨w.heap.size, rfl, Nat.le_refl _, ?_, ?_, (Below.refl w.heap.size w).alloc (Nat.le_refl _) _⟩
  · exact (G [_, _, _, _, _, _, _, _, _, _, _, _, _, _, _, _, _, _, _, _, _, _, _]).cell (i := 14) (by simp)
  · exact (G [_, _, _, _, _, _, _, _, _, _, _, _, _, _, _, _, _, _, _, _, _, _, _]).cell (i := 16) (by simp)

/-- Frame i, its function apart from the frames. -/
def FrmB (w : World) (FB i : Nat) (gi : Bool) (ti : Int) : Prop := w.cell? ⟨FB, i * 10, none⟩ = some (.int .i64 i) ∧ (∃ fb, fb ≠ FB ∧ w.cell? ⟨FB, i * 10 + 1, none⟩ = some (.pointer (some ⟨fb, 0, none⟩)) ∧ w.cell? ⟨fb, 0, none⟩ = some (.bool gi)) ∧
  w.cell? ⟨FB, i * 10 + 2, none⟩ = some (.pointer (par FB i)) ∧ w.cell? ⟨FB, i * 10 + 9, none⟩ = some (.int .i64 ti)
theorem FrmB.out {w : World} {FB i : Nat} {gi : Bool} {ti : Int} (h : FrmB w FB i gi ti) : Frm w FB i gi ti := by
  obtain ⟨h0, ⟨fb, _, h1, h2⟩, h3, h4⟩ := h
  exact ⟨h0, ⟨fb, h1, h2⟩, h3, h4⟩
theorem FrmB.keep {w w' : World} {FB i : Nat} {gi : Bool} {ti : Int} (h : FrmB w FB i gi ti) (k : ∀ p v, w.cell? p = some v → w'.cell? p = some v) : FrmB w' FB i gi ti := by
  obtain ⟨h0, ⟨fb, hn, h1, h2⟩, h3, h4⟩ := h
  exact ⟨k _ _ h0, ⟨fb, hn, k _ _ h1, k _ _ h2⟩, k _ _ h3, k _ _ h4⟩
theorem out_frames {w : World} {FB o : Nat} {vs : List Value} {x : Addr} {v : Value} (h : w.cell? x = some v) (hx : x.block = FB → x.spot = none → x.off < o ∨ o + vs.length ≤ x.off) : (w.setCells FB o vs).cell? x = some v := by
  rw [World.cell?_setCells_out FB vs o w x hx]
  exact h
theorem FrmB.other {w : World} {FB i k fb : Nat} {pa : Option Addr} {b t : Int} {gi : Bool} {ti : Int} (h : FrmB w FB i gi ti) (hik : i < k) : FrmB (w.setCells FB (k * 10) (frame k fb pa b t)) FB i gi ti := by
  obtain ⟨h0, ⟨fb', hn, h1, h2⟩, h3, h4⟩ := h
  exact ⟨out_frames h0 (fun _ _ => .inl (by show i * 10 < k * 10; omega)), ⟨fb', hn, out_frames h1 (fun _ _ => .inl (by show i * 10 + 1 < k * 10; omega)), out_frames h2 (fun e => absurd e hn)⟩, out_frames h3 (fun _ _ => .inl (by show i * 10 + 2 < k * 10; omega)), out_frames h4 (fun _ _ => .inl (by show i * 10 + 9 < k * 10; omega))⟩
theorem FrmB.made {w : World} {FB k fb : Nat} {gi : Bool} {ti : Int} (th : w.there FB (k * 10) 10) (hn : fb ≠ FB) (hf : w.cell? ⟨fb, 0, none⟩ = some (.bool gi)) : FrmB (w.setCells FB (k * 10) (frame k fb (par FB k) 0 ti)) FB k gi ti := by
  have R := World.rangeAt_setCells_same w FB (k * 10) (frame k fb (par FB k) 0 ti) th
  exact ⟨R 0 _ rfl, ⟨fb, hn, R 1 _ rfl, out_frames hf (fun e => absurd e hn)⟩, R 2 _ rfl, R 9 _ rfl⟩
/-- The stack under way: k frames are set. -/
structure Mk (w : World) (CS FB d k : Nat) (g : Nat → Bool) (t : Nat → Int) : Prop where
  c0 : w.cell? ⟨CS, 0, none⟩ = some (.slice (some ⟨FB, 0, none⟩) d d)
  c1 : w.cell? ⟨CS, 1, none⟩ = some (.int .i64 d)
  th : w.there FB 0 (d * 10)
  fr : ∀ i, i < k → FrmB w FB i (g i) (t i)
theorem Mk.part {w : World} {CS FB d k : Nat} {g : Nat → Bool} {t : Nat → Int} (h : Mk w CS FB d k g t) {i : Nat} (hi : i < d) : w.there FB (i * 10) 10 := fun j hj => by
  have := h.th (i * 10 + j) (by omega)
  rwa [Nat.zero_add] at this
theorem Mk.lt {w : World} {CS FB d k : Nat} {g : Nat → Bool} {t : Nat → Int} (h : Mk w CS FB d k g t) (hd : 0 < d) : FB < w.heap.size := by
  obtain ⟨u, hu⟩ := Option.isSome_iff_exists.1 (h.th 0 (by omega)).1
  exact cell_block_lt hu
theorem Mk.alloc {w : World} {CS FB d k : Nat} {g : Nat → Bool} {t : Nat → Int} (h : Mk w CS FB d k g t) (o : Obj) : Mk (w.alloc o) CS FB d k g t := by
  have K := keeps ((Below.refl w.heap.size w).alloc (Nat.le_refl _) o)
  exact ⟨K _ _ h.c0, K _ _ h.c1, World.there_alloc h.th o, fun i hi => (h.fr i hi).keep K⟩
theorem Mk.step {w : World} {CS FB d k fb : Nat} {g : Nat → Bool} {t : Nat → Int} {gk : Bool} {tk : Int} (h : Mk w CS FB d k g t) (hk : k < d) (hne : CS ≠ FB) (hn : fb ≠ FB) (hf : w.cell? ⟨fb, 0, none⟩ = some (.bool gk)) (eg : g k = gk) (et : t k = tk) :
    Mk (w.setCells FB (k * 10) (frame k fb (par FB k) 0 tk)) CS FB d (k + 1) g t := by
  refine ⟨out_frames h.c0 (fun e => absurd e hne), out_frames h.c1 (fun e => absurd e hne), World.there_setCells h.th _ _ _, fun i hi => ?_⟩
  by_cases e : i = k
  · subst e
    rw [eg, et]
    exact FrmB.made (h.part hk) hn hf
  · exact (h.fr i (by omega)).other (by omega)
theorem new0 {w : World} {x : Value} {l : List Value} {T k : Nat} (hk : k = w.heap.size) : (w.alloc (.cells (x :: l).toArray T)).cell? ⟨k, 0, none⟩ = some x := (lf_at w (x :: l) T k hk).cell (i := 0) (by simp)

theorem noFrame_any (w : World) : Calls Try.prog 24 #[] w fun e w' => e = .returned (.pointer none) ∧ w = w' := by
  go_enter Try.func24, Try.ntmps24
  go_wp2
  go_ret
  exact ⟨rfl, rfl⟩

set_option maxHeartbeats 1000000 in
theorem build_any (a b : Option Addr) (d cg ct : Nat) (zg : List Bool) (zt : List Int) (w : World) (rg : IsRow .bool false w a d cg zg) (rt : IsRow (.int .i64) 0 w b d ct zt) (hd : d ≤ 4096) (ht : ∀ i, i < d → 0 ≤ zt.getD i 0 ∧ zt.getD i 0 ≤ 65537) :
    Calls Try.prog 11 #[.slice a d cg, .slice b d ct] w fun e w' => ∃ CS FB LS, e = .returned (.pointer (some ⟨LS, 0, none⟩)) ∧ Stk w' CS FB LS d (fun i => zg.getD i false) (fun i => zt.getD i 0) ∧ Below w.heap.size w w' := by
  have hgc := rg.2.2.2.2
  have htc := rt.2.2.2.2
  have HT := Lib.hid ht
  have HD := Lib.hid hd
  clear rg rt ht
  go_enter Try.func11, Try.ntmps11
  go_wp2_with fail
  refine (newStack_any d w hd).mono ?_
  rintro e w1 ⟨CS, FB, rfl, hne, hFB, hCS, c0, c1, th, bel⟩
  have M0 : Mk w1 CS FB d 0 (fun i => zg.getD i false) (fun i => zt.getD i 0) := ⟨c0, c1, th, fun i hi => absurd hi (by omega)⟩
  clear c0 c1 th
  have HM := Lib.hid M0
  clear M0
  go_wp2_with fail
  refine (noFrame_any w1).mono ?_
  rintro e w2 ⟨rfl, rfl⟩
  go_wp2_with fail
  go_loopw [7, 8] (fun cur i wr => ∃ k : Nat, k ≤ d ∧ i = .int .i64 k ∧ cur = .pointer (par FB k) ∧ Hid (Mk wr CS FB d k (fun i => zg.getD i false) (fun i => zt.getD i 0)) ∧ Below w.heap.size w wr) (fun _ i _ => d - (intOf i).toNat)
  case atStart => exact ⟨0, Nat.zero_le _, rfl, rfl, HM, bel⟩
  case round =>
    obtain ⟨k, hk, rfl, rfl, MK, hbel⟩ := hrel
    by_cases hlt : k < d
    · obtain ⟨bg, og, hxg, hbg, hcg⟩ := hgc (by omega)
      obtain ⟨bt, ot, hxt, hbt, hct⟩ := htc (by omega)
      have HXG := Lib.hid hxg
      have HXT := Lib.hid hxt
      obtain ⟨vg, hvg⟩ : ∃ v, zg.getD k false = v := ⟨_, rfl⟩
      obtain ⟨vt, hvt⟩ : ∃ v, zt.getD k 0 = v := ⟨_, rfl⟩
      have hcg' : wr.cell? ⟨bg, og + k, none⟩ = some (.bool vg) := by rw [← hvg]; exact (hbel.cell (p := ⟨bg, og + k, none⟩) hbg).trans (hcg k hlt)
      have hct' : wr.cell? ⟨bt, ot + k, none⟩ = some (.int .i64 vt) := by rw [← hvt]; exact (hbel.cell (p := ⟨bt, ot + k, none⟩) hbt).trans (hct k hlt)
      have hlg : bg < wr.heap.size := cell_block_lt hcg'
      have hlt' : bt < wr.heap.size := cell_block_lt hct'
      have hlt1 : bt < wr.heap.size + 1 := by omega
      have hlt2 : bt < wr.heap.size + 1 + 1 := by omega
      have tb := HT.out k hlt
      rw [hvt] at tb
      have HVG := Lib.hid hvg
      have HVT := Lib.hid hvt
      have hFl := MK.out.lt (by omega)
      rw [hxg, hxt]
      clear hxg hxt hcg hct hgc htc hvg hvt
      cases vg with
      | true =>
        go_wp2_with fail
        refine (setFrame_any CS FB d k (par FB k) _ vt _ (MK.out.alloc _).c0 hlt HD.out tb.1 tb.2 ((MK.out.alloc _).part hlt) hne).mono ?_
        rintro e w2 ⟨rfl, rfl⟩
        have M2 := Lib.hid ((MK.out.alloc (.cells #[.bool true, .pointer none, .pointer none, .nilFunc, .slice none 0 0] 56)).step hlt hne (fb := wr.heap.size) (by omega) (new0 rfl) HVG.out HVT.out)
        have b2 := below_setCells hFB (frame k wr.heap.size (par FB k) 0 vt) (k * 10) _ (hbel.alloc (hbel.size) (.cells #[.bool true, .pointer none, .pointer none, .nilFunc, .slice none 0 0] 56))
        obtain ⟨w3, hw3⟩ : ∃ v, ((wr.alloc (.cells #[.bool true, .pointer none, .pointer none, .nilFunc, .slice none 0 0] 56)).setCells FB (k * 10) (frame k wr.heap.size (par FB k) 0 vt)) = v := ⟨_, rfl⟩
        rw [hw3] at M2 b2 ⊢
        clear hw3
        go_wp2_with fail
        go_roundw
        case rel => exact ⟨k + 1, by omega, by go_num, rfl, M2, b2⟩
        case measure => simp [intOf]; omega
      | false =>
        go_wp2_with fail
        refine (setFrame_any CS FB d k (par FB k) _ vt _ (((MK.out.alloc _).alloc _).alloc _).c0 hlt HD.out tb.1 tb.2 ((((MK.out.alloc _).alloc _).alloc _).part hlt) hne).mono ?_
        rintro e w2 ⟨rfl, hw2⟩
        have M2 : Hid (Mk w2 CS FB d (k + 1) (fun i => zg.getD i false) (fun i => zt.getD i 0)) := by
          rw [hw2]
          exact Lib.hid ((((MK.out.alloc _).alloc _).alloc _).step hlt hne (by omega) (new0 (by simp)) HVG.out HVT.out)
        have b2 : Below w.heap.size w w2 := by
          have h0 := hbel.size
          rw [hw2]
          exact below_setCells hFB _ _ _ (((hbel.alloc h0 _).alloc (by simp; omega) _).alloc (by simp; omega) _)
        clear hw2
        go_wp2_with fail
        go_roundw
        case rel => exact ⟨k + 1, by omega, by go_num, rfl, M2, b2⟩
        case measure => simp [intOf]; omega
    · have e : k = d := by omega
      subst e
      go_wp2_with fail
      refine (newReg_any wr).mono ?_
      rintro e w2 ⟨q, rfl, b2⟩
      go_wp2_with fail
      refine (newState_any (some ⟨CS, 0, none⟩) (par FB k) (some ⟨q, 0, none⟩) w2).mono ?_
      rintro e w3 ⟨LS, rfl, hLS, s0, s1, b3⟩
      have K2 := keeps b2
      have K3 := keeps b3
      have bb := hbel.trans ((b2.mono hbel.size).trans (b3.mono (Nat.le_trans hbel.size b2.size)))
      have S : Stk w3 CS FB LS k (fun i => zg.getD i false) (fun i => zt.getD i 0) := ⟨s0, s1, K3 _ _ (K2 _ _ MK.out.c0), K3 _ _ (K2 _ _ MK.out.c1), fun i hi => (((MK.out.fr i hi).keep K2).keep K3).out⟩
      clear s0 s1 K2 K3 hgc htc
      have SS := Lib.hid S
      clear S
      go_wp2_with fail
      go_ret
      exact ⟨CS, FB, LS, rfl, SS.out, bb⟩
end Go.Proofs.Ytbpkncpkgmehiaa.gs
