/- The walk of FnSorterSwapScriptMatchesModel: the Go text returns true and writes nothing that was there. -/
import Derived.Test.YtbpkncpkgmehiaaSw
import Derived.Test.YtbpkncpkgmehiaaCloneF64
import Derived.Test.YtbpkncpkgmehiaaCloneInt
namespace Go.Proofs.Ytbpkncpkgmehiaa.fnSorterSwapScriptMatchesModel
open Go.ChangeShapes Go.WideShapes Go.ChangeAt Go.RowKit
set_option linter.unusedVariables false
attribute [local go_sem] run_store_iface run_store_nilIface run_store_fl as_num

/-- The state behind some swaps: the sorter's array at g, the model's at m, the sorter's struct at H. -/
structure St (w : World) (g m H n : Nat) (z : List Nat) : Prop where
  len : z.length = n
  ar : w.rowIs g 77 n (nums z)
  mo : w.rowIs m 42 n (fun i => .float .f64 (z.getD i 0))
  bx : w.rowIs H 38 3 (lf [.pointer none, .pointer none, .slice (some ⟨g, 0, none⟩) n n])

theorem model_swap {w : World} {m n T : Nat} {z : List Nat} (h : w.rowIs m T n (fun i => .float .f64 (z.getD i 0))) (i j : Nat) (hz : z.length = n) (hi : i < n) (hj : j < n) :
    ((w.setCell ⟨m, i, none⟩ (.float .f64 (z.getD j 0))).setCell ⟨m, j, none⟩ (.float .f64 (z.getD i 0))).rowIs m T n (fun k => .float .f64 ((swp z i j).getD k 0)) := by
  refine ((h.set i _).set j _).congr fun k hk => ?_
  have e := swp_at z i j k (by omega) (by omega)
  simp only [e]
  by_cases e1 : k = j
  · simp [e1]
  · by_cases e2 : k = i
    · subst e2
      rw [if_neg e1, if_pos rfl, if_neg e1, if_pos rfl]
    · rw [if_neg e1, if_neg e2, if_neg e1, if_neg e2]

set_option maxRecDepth 100000 in
set_option maxHeartbeats 4000000 in
theorem main (a : Option Addr) (n cap : Nat) (z : List Nat) (a1 : Option Addr) (l c1 : Nat) (ps : List Int) (w : World) (r0 : IsRow (.float .f64) 0 w a n cap z) (r1 : IsRow (.int .i64) 0 w a1 l c1 ps) (hps : ∀ z ∈ ps, (Lit.int .i64 z).wf = true) (hn : n ≤ 65536) (hl : l ≤ 65536) :
    Calls Try.prog 6 #[.slice a n cap, .slice a1 l c1] w fun e w' => e = .returned (.bool true) ∧ Below w.heap.size w w' := by
  have l0 := Lib.hid r0.1
  have l1 := Lib.hid r1.1
  have hmk := run_make_row' (P := Try.prog) 32 42 (.float .f64 0) 8 Try.underlying32 infoF rfl .i64 .i64 n (by omega) (by omega)
  go_enter Try.func6, Try.ntmps6
  go_wp2_with (go_at_call 20; go_in)
  refine (cloneF64_any _ _ _ z _ r0 (by omega)).mono ?_
  rintro e w1 C
  obtain ⟨d, rfl, g1, rg1, B⟩ := C.rng
  have s1 := B.size
  have r1' := Lib.hid (row_below r1 B)
  clear C r0 r1
  go_wp2_with fail
  refine (cloneInt_any _ _ _ ps _ r1'.out (by omega)).mono ?_
  rintro e w2 C
  obtain ⟨dp, rfl, gp, rgp, b2⟩ := C.rng
  have s2 := b2.size
  replace g1 := got_below g1 b2
  replace B := bel_trans B b2 s1
  clear b2 C r1'
  go_wp2_with fail
  refine (newSorter_any d n n z _ (got_row g1 l0.out (by omega)) (by omega)).mono ?_
  rintro e w3 ⟨g, rfl, q1, R, b3⟩
  have s3 := b3.size
  replace g1 := got_below g1 b3
  replace gp := got_below gp b3
  replace B := bel_trans B b3 B.size
  clear b3
  go_wp2_with fail
  have S := lf_at w3 [.pointer none, .pointer none, .slice (some ⟨g, 0, none⟩) n n] 38 _ rfl
  replace S : World.rowIs (w3.alloc (.cells #[.pointer none, .pointer none, .slice (some ⟨g, 0, none⟩) n n] 38)) w3.heap.size 38 3 _ := S
  have R_lt := R.lt
  replace R := R.alloc (.cells #[.pointer none, .pointer none, .slice (some ⟨g, 0, none⟩) n n] 38)
  replace g1 := got_alloc g1 (.cells #[.pointer none, .pointer none, .slice (some ⟨g, 0, none⟩) n n] 38)
  replace gp := got_alloc gp (.cells #[.pointer none, .pointer none, .slice (some ⟨g, 0, none⟩) n n] 38)
  replace B := B.alloc B.size (.cells #[.pointer none, .pointer none, .slice (some ⟨g, 0, none⟩) n n] 38)
  have z_H : (w3.alloc (.cells #[.pointer none, .pointer none, .slice (some ⟨g, 0, none⟩) n n] 38)).heap.size = w3.heap.size + 1 := by simp
  obtain ⟨v3, h_v3⟩ : ∃ v, w3.alloc (.cells #[.pointer none, .pointer none, .slice (some ⟨g, 0, none⟩) n n] 38) = v := ⟨_, rfl⟩
  obtain ⟨H, h_H⟩ : ∃ H, w3.heap.size = H := ⟨_, rfl⟩
  rw [h_H] at S z_H R_lt ⊢
  rw [h_v3] at S z_H R g1 gp B ⊢
  have l_H : w.heap.size ≤ H := by omega
  have M := World.rowIs_made v3 (Value.float .f64 0) n 42
  have R1 := R.alloc (.cells (madeCells #[.float .f64 0] n) 42)
  have S1 := S.alloc (.cells (madeCells #[.float .f64 0] n) 42)
  have g1' := got_alloc g1 (.cells (madeCells #[.float .f64 0] n) 42)
  have gp' := got_alloc gp (.cells (madeCells #[.float .f64 0] n) 42)
  have B1 := B.alloc B.size (.cells (madeCells #[.float .f64 0] n) 42)
  obtain ⟨v4, h4⟩ : ∃ v, v3.alloc (.cells (madeCells #[.float .f64 0] n) 42) = v := ⟨_, rfl⟩
  rw [z_H] at M
  obtain ⟨m, hm⟩ : ∃ m, H + 1 = m := ⟨_, rfl⟩
  have hHm : H < m := by omega
  rw [hm] at M ⊢
  rw [h4] at M R1 S1 g1' gp' B1 ⊢
  clear h4 hm R S g1 gp B hmk h_v3 h_H
  have hgH : g < H := by omega
  have RH := Lib.hid R1
  have SH := Lib.hid S1
  have GP := Lib.hid gp'
  have G1 := Lib.hid g1'
  clear R1 S1 gp' g1'
  go_loopw [8] (fun i wr => ∃ k : Nat, k ≤ n ∧ i = .int .i64 k ∧ Hid (wr.rowIs m 42 n (fun j => .float .f64 (if j < k then z.getD j 0 else 0))) ∧ Below m v4 wr ∧ Below w.heap.size w wr) (fun i _ => n - (intOf i).toNat)
  case atStart => exact ⟨0, Nat.zero_le _, rfl, Lib.hid (M.congr fun i _ => by simp), Below.refl _ _, B1⟩
  case round =>
    obtain ⟨k, hk, rfl, RK, bm, hbel⟩ := hrel
    by_cases hlt : k < n
    · obtain ⟨v, hv⟩ : ∃ v, z.getD k 0 = v := ⟨_, rfl⟩
      obtain ⟨xd, hxd, hBd, hrd⟩ := got_pos G1.out (by omega)
      have hcs : wr.cell? ⟨xd, k, none⟩ = some (.float .f64 v) := by rw [← hv]; exact (bm.cell (p := ⟨xd, k, none⟩) (show xd < m by have := rg1 _ hxd; simp at this; omega)).trans (hrd.cell (i := k) hlt)
      have HV := Lib.hid hv
      have HX := Lib.hid hxd
      rw [hxd]
      clear hv hxd hrd
      have hlt' : (k : Int) < (n : Int) := by omega
      have hd := RK.out.cell (i := k) hlt
      have hf := RK.out.frozen k
      go_wp2_with fail
      go_roundw
      case rel =>
        refine ⟨k + 1, by omega, by go_num, Lib.hid ((RK.out.set k _).congr fun i hi => ?_), bm.setCell (p := ⟨m, k, none⟩) (Nat.le_refl _) _, hbel.setCell (p := ⟨m, k, none⟩) (show w.heap.size ≤ m by omega) _⟩
        have hv := HV.out
        by_cases e : i = k
        · subst e
          rw [if_pos rfl, if_pos (by omega), hv]
        · rw [if_neg e]
          by_cases l : i < k
          · rw [if_pos l, if_pos (by omega)]
          · rw [if_neg l, if_neg (by omega)]
      case measure => simp [intOf]; omega
    · obtain rfl : n = k := by omega
      have st0 : St wr g m H n z := ⟨l0.out, rowIs_below bm (by omega) RH.out, RK.out.congr fun i hi => by simp [hi], rowIs_below bm (by omega) SH.out⟩
      have ST0 := Lib.hid st0
      have hmlt := RK.out.lt
      have GP' := Lib.hid (got_of GP.out (fun x hx hl => bm.block x.block (by have := rgp x hx; omega)))
      clear RH SH GP RK st0 bm M
      go_wp2_with fail
      go_loopw [9] (fun t wq => ∃ (u : Nat) (z' : List Nat), u ≤ l + 1 ∧ t = .int .i64 u ∧ Hid (St wq g m H n z') ∧ Hid (Got w1.heap.size wq dp 3 l (fun i => .int .i64 (ps.getD i 0))) ∧ m < wq.heap.size ∧ Below w.heap.size w wq) (fun t _ => l + 2 - (intOf t).toNat)
      case atStart => exact ⟨0, z, Nat.zero_le _, rfl, ST0, GP', hmlt, hbel⟩
      case round =>
        obtain ⟨u, z', hu, rfl, ST, GQ, hmq, hbq⟩ := hrel
        have bx := Lib.hid ST.out.bx
        have t0 : wr.cell? ⟨H, 0, none⟩ = some (.pointer none) := bx.out.cell (i := 0) (by omega)
        have t1 : wr.cell? ⟨H, 1, none⟩ = some (.pointer none) := bx.out.cell (i := 1) (by omega)
        have t2 : wr.cell? ⟨H, 2, none⟩ = some (.slice (some ⟨g, 0, none⟩) n n) := bx.out.cell (i := 2) (by omega)
        by_cases hlt : u + 1 < l
        · obtain ⟨xp, hxp, hBp, hrp⟩ := got_pos GQ.out (by omega)
          have hlp : xp < w2.heap.size := by have := rgp _ hxp; simp at this; omega
          have HXP := Lib.hid hxp
          rw [hxp]
          have hlt' : (u : Int) + 1 < (l : Int) := by omega
          have hlt0 : (u : Int) < (l : Int) := by omega
          have wi : ∃ x, ps.getD u 0 = x ∧ -9223372036854775808 ≤ x ∧ x ≤ 9223372036854775807 := by
            have e : u < ps.length := by have := l1.out; omega
            refine ⟨_, rfl, ?_⟩
            have := i64_bd (hps ps[u] (List.getElem_mem e))
            simpa [List.getD, e] using this
          have wj : ∃ x, ps.getD (u + 1) 0 = x ∧ -9223372036854775808 ≤ x ∧ x ≤ 9223372036854775807 := by
            have e : u + 1 < ps.length := by have := l1.out; omega
            refine ⟨_, rfl, ?_⟩
            have := i64_bd (hps ps[u + 1] (List.getElem_mem e))
            simpa [List.getD, e] using this
          obtain ⟨pi, hpi, pi1, pi2⟩ := wi
          obtain ⟨pj, hpj, pj1, pj2⟩ := wj
          have ci : wr.cell? ⟨xp, u, none⟩ = some (.int .i64 pi) := by rw [← hpi]; exact hrp.cell (i := u) (by omega)
          have cj : wr.cell? ⟨xp, u + 1, none⟩ = some (.int .i64 pj) := by rw [← hpj]; exact hrp.cell (i := u + 1) (by omega)
          clear hpi hpj hxp hrp
          by_cases c1 : pi < 0
          · go_wp2_with fail
            go_roundw
            case rel => exact ⟨u + 2, z', by omega, by go_num, ST, by (have G := GQ; rw [HXP.out] at G; exact G), hmq, hbq⟩
            case measure => simp [intOf]; omega
          by_cases c2 : (n : Int) ≤ pi
          · have c1' : decide (pi < 0) = false := by simpa using c1
            go_wp2_with fail
            go_roundw
            case rel => exact ⟨u + 2, z', by omega, by go_num, ST, by (have G := GQ; rw [HXP.out] at G; exact G), hmq, hbq⟩
            case measure => simp [intOf]; omega
          by_cases c3 : pj < 0
          · have c1' : decide (pi < 0) = false := by simpa using c1
            have c2' : decide ((n : Int) ≤ pi) = false := by simpa using c2
            go_wp2_with fail
            go_roundw
            case rel => exact ⟨u + 2, z', by omega, by go_num, ST, by (have G := GQ; rw [HXP.out] at G; exact G), hmq, hbq⟩
            case measure => simp [intOf]; omega
          by_cases c4 : (n : Int) ≤ pj
          · have c1' : decide (pi < 0) = false := by simpa using c1
            have c2' : decide ((n : Int) ≤ pi) = false := by simpa using c2
            have c3' : decide (pj < 0) = false := by simpa using c3
            go_wp2_with fail
            go_roundw
            case rel => exact ⟨u + 2, z', by omega, by go_num, ST, by (have G := GQ; rw [HXP.out] at G; exact G), hmq, hbq⟩
            case measure => simp [intOf]; omega
          obtain ⟨i, rfl⟩ := Int.eq_ofNat_of_zero_le (show 0 ≤ pi by omega)
          obtain ⟨j, rfl⟩ := Int.eq_ofNat_of_zero_le (show 0 ≤ pj by omega)
          have hi : i < n := by omega
          have hj : j < n := by omega
          have hi' : (i : Int) < (n : Int) := by omega
          have hj' : (j : Int) < (n : Int) := by omega
          have d1 : decide ((i : Int) < 0) = false := by simp
          have d2 : decide ((n : Int) ≤ (i : Int)) = false := by simpa using c2
          have d3 : decide ((j : Int) < 0) = false := by simp
          have d4 : decide ((n : Int) ≤ (j : Int)) = false := by simpa using c4
          clear c1 c2 c3 c4
          go_wp2_with fail
          refine (swap_any g n i j z' _ ST.out.ar ST.out.len hi hj).mono ?_
          rintro e w5 ⟨rfl, R5, s5, b5, k5⟩
          have M5 := Lib.hid (ST.out.mo.of_block (k5 m hmq (by omega)))
          have S5 := Lib.hid (bx.out.of_block (k5 H (by omega) (by omega)))
          have R5' := Lib.hid R5
          have G5 := Lib.hid (got_of GQ.out (fun x hx hl => b5.block x.block (by have := rgp x hx; omega)))
          have B5 := hbq.trans (b5.mono (show w.heap.size ≤ g by omega))
          have hz' := Lib.hid ST.out.len
          clear R5 b5 k5 ST GQ bx t0 t1 t2 ci cj
          obtain ⟨x, hx⟩ : ∃ x, z'.getD i 0 = x := ⟨_, rfl⟩
          obtain ⟨y, hy⟩ : ∃ y, z'.getD j 0 = y := ⟨_, rfl⟩
          have mi : w5.cell? ⟨m, i, none⟩ = some (.float .f64 x) := by rw [← hx]; exact M5.out.cell (i := i) hi
          have mj : w5.cell? ⟨m, j, none⟩ = some (.float .f64 y) := by rw [← hy]; exact M5.out.cell (i := j) hj
          have fi := M5.out.frozen i
          have fj := M5.out.frozen j
          have t0 : w5.cell? ⟨H, 0, none⟩ = some (.pointer none) := S5.out.cell (i := 0) (by omega)
          have t1 : w5.cell? ⟨H, 1, none⟩ = some (.pointer none) := S5.out.cell (i := 1) (by omega)
          have t2 : w5.cell? ⟨H, 2, none⟩ = some (.slice (some ⟨g, 0, none⟩) n n) := S5.out.cell (i := 2) (by omega)
          have hHm' : H ≠ m := by omega
          have HX := Lib.hid hx
          have HY := Lib.hid hy
          clear hx hy
          have fin : ∀ w6, Below ((w5.setCell ⟨m, i, none⟩ (.float .f64 y)).setCell ⟨m, j, none⟩ (.float .f64 x)).heap.size ((w5.setCell ⟨m, i, none⟩ (.float .f64 y)).setCell ⟨m, j, none⟩ (.float .f64 x)) w6 →
              St w6 g m H n (swp z' i j) ∧ Got w1.heap.size w6 dp 3 l (fun i => .int .i64 (ps.getD i 0)) ∧ m < w6.heap.size ∧ Below w.heap.size w w6 := by
            intro w6 b6
            have mo := model_swap M5.out i j hz'.out hi hj
            rw [HX.out, HY.out] at mo
            have sz : ((w5.setCell ⟨m, i, none⟩ (.float .f64 y)).setCell ⟨m, j, none⟩ (.float .f64 x)).heap.size = w5.heap.size := by simp
            have s6 := b6.size
            refine ⟨⟨(swp_len _ _ _).trans hz'.out, ?_, ?_, ?_⟩, ?_, by omega, ?_⟩
            · exact rowIs_below b6 (by omega) ((R5'.out.setOther (a := ⟨m, i, none⟩) (show g ≠ m by omega) _).setOther (a := ⟨m, j, none⟩) (show g ≠ m by omega) _)
            · exact rowIs_below b6 (by omega) mo
            · exact rowIs_below b6 (by omega) ((S5.out.setOther (a := ⟨m, i, none⟩) (show H ≠ m by omega) _).setOther (a := ⟨m, j, none⟩) (show H ≠ m by omega) _)
            · refine got_below (got_of G5.out (fun x hx hl => ?_)) b6
              have := rgp x hx
              exact (Below.heap_setCell _ _ _ _ (show x.block ≠ m by omega)).trans (Below.heap_setCell _ _ _ _ (show x.block ≠ m by omega))
            · exact bel_trans ((B5.setCell (p := ⟨m, i, none⟩) (show w.heap.size ≤ m by omega) _).setCell (p := ⟨m, j, none⟩) (show w.heap.size ≤ m by omega) _) b6 (by have := B5.size; omega)
          have FIN := Lib.hid fin
          clear fin
          by_cases e : i = j
          · subst e
            obtain rfl : x = y := by rw [← HX.out, ← HY.out]
            clear mj fj hj' d3 d4
            go_wp2_with fail
            refine (slen_any g n _).mono ?_
            rintro e w6 ⟨rfl, b6⟩
            obtain ⟨f1, f2, f3, f4⟩ := FIN.out w6 b6
            have F1 := Lib.hid f1
            have F2 := Lib.hid f2
            clear f1 f2 b6
            go_wp2_with fail
            go_roundw
            case rel => exact ⟨u + 2, _, by omega, by go_num, F1, by (have G := F2; rw [HXP.out] at G; exact G), f3, f4⟩
            case measure => simp [intOf]; omega
          · go_wp2_with fail
            refine (slen_any g n _).mono ?_
            rintro e w6 ⟨rfl, b6⟩
            obtain ⟨f1, f2, f3, f4⟩ := FIN.out w6 b6
            have F1 := Lib.hid f1
            have F2 := Lib.hid f2
            clear f1 f2 b6
            go_wp2_with fail
            go_roundw
            case rel => exact ⟨u + 2, _, by omega, by go_num, F1, by (have G := F2; rw [HXP.out] at G; exact G), f3, f4⟩
            case measure => simp [intOf]; omega
        · have hlt' : decide ((u : Int) + 1 < (l : Int)) = false := by simp; omega
          have mo := Lib.hid ST.out.mo
          go_wp2_with fail
          clear t0 t1 t2
          refine (nums_any g n z' _ ST.out.ar (by omega)).mono ?_
          rintro e w7 ⟨o, rfl, q7, R, b7⟩
          have RO := Lib.hid R
          have MO := Lib.hid (rowIs_below b7 hmq mo.out)
          have B7 := bel_trans hbq b7 hbq.size
          clear R b7 mo
          go_wp2_with fail
          go_loopw [15] (fun i wr => ∃ k m : Nat, k ≤ n ∧ i = .int .i64 k ∧ wr = w7.drewN m) (fun i _ => n - (intOf i).toNat)
          case atStart => exact ⟨0, 0, Nat.zero_le _, rfl, rfl⟩
          case round =>
            obtain ⟨k, q, hk, rfl, rfl⟩ := hrel
            by_cases hk2 : k < n
            · have hk2' : (k : Int) < (n : Int) := by omega
              obtain ⟨v, hv⟩ : ∃ v, z'.getD k 0 = v := ⟨_, rfl⟩
              have ca : w7.cell? ⟨o, k, none⟩ = some (.float .f64 v) := by rw [← hv]; exact RO.out.cell (i := k) hk2
              have cb : w7.cell? ⟨m, k, none⟩ = some (.float .f64 v) := by rw [← hv]; exact MO.out.cell (i := k) hk2
              clear hv
              go_wp2_with fail
              go_quiet ((go_at_call 18; first | exact quietL (sameF_any v _) | exact quietL2 (sameF_any v _)))
              go_wp2_with fail
              go_roundw
              case rel => exact ⟨k + 1, _, by omega, by go_num, rfl⟩
              case measure => simp [intOf]; omega
            · obtain rfl : n = k := by omega
              go_wp2_with fail
              go_ret
              exact ⟨rfl, below_drewN B7 q⟩

set_option maxHeartbeats 1000000 in
theorem walk (a0 : Option Addr) (len0 cap0 : Nat) (z0 : List Nat) (a1 : Option Addr) (len1 cap1 : Nat) (z1 : List Int) (w : World) (r0 : IsRow (.float .f64) 0 w a0 len0 cap0 z0) (w0 : ∀ z ∈ z0, (Lit.float .f64 z).wf = true) (r1 : IsRow (.int .i64) 0 w a1 len1 cap1 z1) (w1 : ∀ z ∈ z1, (Lit.int .i64 z).wf = true) :
    Calls Try.prog 6 #[.slice a0 len0 cap0, .slice a1 len1 cap1] w fun e w' => e = .returned (.bool true) ∧ Below w.heap.size w w' := by
  have m0 := r0.2.1
  have m0' := r0.2.2.1
  have m1 := r1.2.1
  have m1' := r1.2.2.1
  unfold maxLen at m0' m1'
  by_cases g1 : (1048576 : Int) < (len0 : Int)
  · clear r0 r1
    go_enter Try.func6, Try.ntmps6
    go_wp2_with (go_at_call 20; go_in)
    all_goals (go_ret; exact ⟨rfl, Below.refl _ _⟩)
  by_cases g2 : (1048576 : Int) < (len1 : Int)
  · clear r0 r1
    go_enter Try.func6, Try.ntmps6
    go_wp2_with (go_at_call 20; go_in)
    all_goals (go_ret; exact ⟨rfl, Below.refl _ _⟩)
  by_cases g3 : (1048576 : Int) < (len0 : Int) + (len1 : Int)
  · clear r0 r1
    go_enter Try.func6, Try.ntmps6
    go_wp2_with (go_at_call 20; go_in)
    all_goals (go_ret; exact ⟨rfl, Below.refl _ _⟩)
  by_cases g4 : (65536 : Int) < (len0 : Int)
  · clear r0 r1
    go_enter Try.func6, Try.ntmps6
    go_wp2_with (go_at_call 20; go_in)
    all_goals (go_ret; exact ⟨rfl, Below.refl _ _⟩)
  by_cases g5 : (65536 : Int) < (len1 : Int)
  · clear r0 r1
    go_enter Try.func6, Try.ntmps6
    go_wp2_with (go_at_call 20; go_in)
    all_goals (go_ret; exact ⟨rfl, Below.refl _ _⟩)
  exact main a0 len0 cap0 z0 a1 len1 cap1 z1 w r0 r1 w1 (by omega) (by omega)
end Go.Proofs.Ytbpkncpkgmehiaa.fnSorterSwapScriptMatchesModel
