/- The walk of FnLocalVarsCountLeafRegistration: the Go text returns true and writes nothing that was there. -/
import Derived.Test.YtpkolfmdockdnaaPool
namespace Go.Proofs.Ytpkolfmdockdnaa.fnLocalVarsCountLeafRegistration
open Go.ChangeShapes Go.WideShapes Go.ChangeAt Go.RowKit
set_option linter.unusedVariables false

/-- The sum of the first k counts. -/
def S (z : List Int) (k : Nat) : Nat := ((z.take k).map Int.toNat).sum
theorem S_zero (z : List Int) : S z 0 = 0 := by simp [S]
theorem S_succ (z : List Int) (k : Nat) (hk : k < z.length) : S z (k + 1) = S z k + (z.getD k 0).toNat := by
  unfold S
  rw [List.take_succ_eq_append_getElem hk, List.map_append, List.sum_append]
  simp [List.getD, hk]
theorem S_le (z : List Int) (k n : Nat) (h : k ≤ n) : S z k ≤ S z n := by
  induction n with
  | zero => obtain rfl : k = 0 := by omega
            exact Nat.le_refl _
  | succ n ih =>
    by_cases e : k = n + 1
    · rw [e]; exact Nat.le_refl _
    · by_cases hn : n < z.length
      · rw [S_succ z n hn]; have := ih (by omega); omega
      · have e2 : S z (n + 1) = S z n := by unfold S; rw [List.take_of_length_le (by omega), List.take_of_length_le (by omega)]
        rw [e2]; exact ih (by omega)

set_option maxHeartbeats 4000000 in
theorem main_nil (z : List Int) (ex : Nat) (w : World) (hz0 : z = []) (hex : ex ≤ 65536)  :
    Calls Try.prog 7 #[.slice none 0 0, .int .i64 ex] w fun e w' => e = .returned (.bool true) ∧ Below w.heap.size w w' := by
  subst hz0
  obtain ⟨z, hz⟩ : ∃ z : List Int, z = [] := ⟨_, rfl⟩
  have hnn := fun (w : World) (a : Option Addr) (n c n' c' : Nat) => run_neq_slice_nil_any (P := Try.prog) w 38 3 a n c n' c' Try.underlying38
  have HZ0 := Lib.hid hz
  clear hz
  go_enter Try.func7, Try.ntmps7
  go_wp2_with (go_at_call 23; go_in)
  go_loopw [5, 6] (fun t i wr => ∃ k : Nat, k ≤ 0 ∧ i = .int .i64 k ∧ t = .int .i64 (S z k : Nat) ∧ S z k ≤ 65536 ∧ Hid (∀ j, j < k → 0 ≤ z.getD j 0 ∧ z.getD j 0 ≤ 65536) ∧ w = wr) (fun _ i _ => 0 - (intOf i).toNat)
  case atStart => exact ⟨0, Nat.zero_le _, rfl, by simp [S_zero], by simp [S_zero], Lib.hid (fun j hj => by omega), rfl⟩
  case round =>
    obtain ⟨k, hk, rfl, rfl, hs, BD, rfl⟩ := hrel
    by_cases hlt : k < 0
    · omega
    · obtain rfl : 0 = k := by omega
      have B := Below.refl w.heap.size w
      have ST := Lib.hid (show S z 0 ≤ 65536 from hs)
      clear BD
      go_wp2_with fail
      refine (zzPool_any 0 _).mono ?_
      rintro e w2 ⟨rfl, PL, z2, b2⟩
      have PL0 := Lib.hid PL
      clear PL
      go_wp2_with fail
      refine (newBlock_any _ none _).mono ?_
      rintro e w3 ⟨rfl, K, z3, b3⟩
      have ch : Chain w3 w3.heap.size (some ⟨w2.heap.size + 1, 0, none⟩) [0] := by
        obtain ⟨a, c, xs, hs, _⟩ := PL0.out
        refine ⟨w2.heap.size + 1, w.heap.size + 1, a, c, none, rfl, by omega, by omega, K.cell (i := 0) (by omega), K.cell (i := 2) (by omega), ?_, rfl⟩
        exact (b3.cell (p := ⟨w.heap.size + 1, 0, none⟩) (show w.heap.size + 1 < w2.heap.size by omega)).trans (hs.cell (i := 0) (by omega))
      have B3 := b2.trans (b3.mono (show w.heap.size ≤ w2.heap.size by omega))
      have RB := Lib.hid (b2.trans (b3.mono (show w.heap.size ≤ w2.heap.size by omega)))
      have CH := Lib.hid ch
      clear ch K PL0 b2 b3
      have hg : w.heap.size ≤ w3.heap.size := by omega
      have hw := B.size
      generalize w2.heap.size + 1 = blk0 at *
      clear z2 z3
      go_wp2_with fail
      go_loopw [10, 11] (fun bl i wr => ∃ (k : Nat) (q : Option Addr) (ns : List Nat), k ≤ 0 ∧ i = .int .i64 k ∧ bl = .pointer q ∧ Hid (Chain wr wr.heap.size q ns) ∧ Hid (ns.sum = S z k) ∧ w.heap.size ≤ wr.heap.size ∧ Below w.heap.size w wr ∧ Hid (Below w.heap.size w wr)) (fun _ i _ => 0 - (intOf i).toNat)
      case atStart => exact ⟨0, _, [0], Nat.zero_le _, rfl, rfl, CH, Lib.hid (by simp [S_zero]), hg, B3, RB⟩
      case round =>
        obtain ⟨k, q, ns, hk, rfl, rfl, CK, NS, gk, Bk, RK⟩ := hrel
        by_cases hlt : k < 0
        · omega
        · obtain rfl : 0 = k := by omega
          have hT := ST.out
          obtain ⟨T, hTT⟩ : ∃ T, S z 0 = T := ⟨_, rfl⟩
          rw [hTT] at NS hT ⊢
          have HTT := Lib.hid hTT
          clear hTT
          go_wp2_with fail
          refine (count_any _ q ns T _ CK.out NS.out (by omega)).mono ?_
          rintro e v1 ⟨rfl, k1, hv1⟩
          have CV := Lib.hid (show Chain (wr.drewN k1) (wr.drewN k1).heap.size q ns from CK.out.below ⟨rfl, rfl, rfl, Nat.le_refl _, fun _ _ => rfl⟩)
          have BV := below_drewN Bk k1
          rw [hv1] at CV BV
          clear CK Bk RK hv1
          go_wp2_with fail
          refine (zzPool_any T _).mono ?_
          rintro e v2 ⟨rfl, PL, y2, c2⟩
          have PL0 := Lib.hid PL
          have CV2 := Lib.hid (CV.out.below c2)
          have BV2 := bel_trans BV c2 BV.size
          obtain ⟨G, hG⟩ : ∃ G, v1.heap.size = G := ⟨_, rfl⟩
          have sG := BV.size
          rw [hG] at PL0 y2 CV2 sG ⊢
          clear PL c2 CV hG BV
          go_wp2_with fail
          refine (newBlock_any _ q _).mono ?_
          rintro e v3 ⟨rfl, K, y3, c3⟩
          have ch : Chain v3 v3.heap.size (some ⟨v2.heap.size + 1, 0, none⟩) (0 :: ns) := by
            obtain ⟨a, c, xs, hs, _⟩ := PL0.out
            refine ⟨v2.heap.size + 1, G + 1, a, c, q, rfl, by omega, by omega, K.cell (i := 0) (by omega), K.cell (i := 2) (by omega), ?_, ?_⟩
            · exact (c3.cell (p := ⟨G + 1, 0, none⟩) (show G + 1 < v2.heap.size by omega)).trans (hs.cell (i := 0) (by omega))
            · exact ((CV2.out.mono (show G ≤ v2.heap.size by omega)).below c3).mono (by omega)
          have PL3 := Lib.hid (PL0.out.below c3)
          have KK := Lib.hid K
          have CV3 := Lib.hid (CV2.out.below (c3.mono (show G ≤ v2.heap.size by omega)))
          have BV3 := bel_trans BV2 c3 BV2.size
          have CH := Lib.hid ch
          obtain ⟨L, hL⟩ : ∃ L, v2.heap.size + 1 = L := ⟨_, rfl⟩
          have gL : G + 2 ≤ L ∧ L + 1 = v3.heap.size := by omega
          have LL : v2.heap.size = L - 1 := by omega
          rw [hL] at CH KK ⊢
          rw [LL] at KK
          clear ch K PL0 CV2 c3 BV2 hL y2 y3
          go_wp2_with fail
          refine (count_any _ (some ⟨L, 0, none⟩) (0 :: ns) T _ CH.out (by rw [List.sum_cons, NS.out]; omega) (by omega)).mono ?_
          rintro e v4 ⟨rfl, k4, hv4⟩
          have d4 : Below v3.heap.size v3 (v3.drewN k4) := ⟨rfl, rfl, rfl, Nat.le_refl _, fun _ _ => rfl⟩
          have PL4 := Lib.hid (show Pool (v3.drewN k4) G (G + 1) 0 (T : Nat) from PL3.out)
          have K4 := Lib.hid (show (v3.drewN k4).rowIs L 63 8 _ from KK.out)
          have C4 := Lib.hid (show Chain (v3.drewN k4) G q ns from CV3.out.below ⟨rfl, rfl, rfl, Nat.le_refl _, fun _ _ => rfl⟩)
          have B4 := below_drewN BV3 k4
          have s4 : (v3.drewN k4).heap.size = v3.heap.size := rfl
          rw [hv4] at PL4 K4 C4 B4 s4
          clear hv4 d4 CH PL3 KK CV3 BV3
          go_wp2_with fail
          go_loopw [18] (fun j wq => ∃ m : Nat, m ≤ ex ∧ j = .int .i64 m ∧ Hid (Pool wq G (G + 1) m (T : Nat)) ∧ v4.heap.size ≤ wq.heap.size ∧ Hid (Below G v4 wq) ∧ Hid (wq.rowIs L 63 8 (lf [.pointer (some ⟨G + 1, 0, none⟩), .int .i64 0, .pointer q, .bool false, .int .i64 0, .int .i64 0, .map (some (L - 1)), .int .i64 0]))) (fun j _ => ex - (intOf j).toNat)
          case atStart => exact ⟨0, Nat.zero_le _, rfl, PL4, Nat.le_refl _, Lib.hid (Below.refl _ _), Lib.hid (K4.out.congr fun i hi => by
            match i, hi with
            | 0, _ => rfl
            | 1, _ => rfl
            | 2, _ => rfl
            | 3, _ => rfl
            | 4, _ => rfl
            | 5, _ => rfl
            | 6, _ => rfl
            | 7, _ => rfl)⟩
          case round =>
            obtain ⟨m, hm, rfl, PM, gm, BM, KM⟩ := hrel
            by_cases hme : m < ex
            · have hme' : (m : Int) < (ex : Int) := by omega
              go_wp2_with fail
              refine (register_any G (G + 1) m (T : Nat) _ _ PM.out (by omega) (by omega) (by omega) (by omega)).mono ?_
              rintro e v5 ⟨⟨r, rfl⟩, P5, z5, b5, k5⟩
              have PP := Lib.hid P5
              have BB := Lib.hid (BM.out.trans b5)
              have KP := Lib.hid (k5 L _ _ _ (by decide) (by omega) KM.out)
              clear P5 b5 k5
              go_wp2_with fail
              go_roundw
              case rel => exact ⟨m + 1, by omega, by go_num, PP, by omega, BB, KP⟩
              case measure => simp [intOf]; omega
            · obtain rfl : ex = m := by omega
              have CQ := Lib.hid (C4.out.below BM.out)
              have gG : G ≤ wr.heap.size := by omega
              have cl : Chain wr (L + 1) (some ⟨L, 0, none⟩) (ex :: ns) := by
                obtain ⟨a, c, xs, hs, _⟩ := PM.out
                exact ⟨L, G + 1, a, c, q, rfl, by omega, by omega, KM.out.cell (i := 0) (by omega), KM.out.cell (i := 2) (by omega), hs.cell (i := 0) (by omega), CQ.out.mono (by omega)⟩
              have CL := Lib.hid cl
              have BW := B4.trans (BM.out.mono sG)
              clear cl C4 KM PM BM K4
              have hsum2 : T + ex ≤ 131072 := by omega
              go_wp2_with fail
              refine (count_any _ (some ⟨L, 0, none⟩) (ex :: ns) (T + ex) _ CL.out (by rw [List.sum_cons, NS.out]; omega) (by omega)).mono ?_
              rintro e v7 ⟨rfl, k7, hv7⟩
              have C7 := Lib.hid (show Chain (wr.drewN k7) G q ns from CQ.out.below ⟨rfl, rfl, rfl, Nat.le_refl _, fun _ _ => rfl⟩)
              have B7 := below_drewN BW k7
              rw [hv7] at C7 B7
              rw [show ((T + ex : Nat) : Int) = (T : Int) + (ex : Int) from Int.natCast_add _ _]
              clear hv7 CL CQ BW
              go_wp2_with fail
              refine (count_any _ q ns T _ C7.out NS.out (by omega)).mono ?_
              rintro e w' ⟨rfl, kk, rfl⟩
              go_wp2_with fail
              go_ret
              exact ⟨rfl, below_drewN B7 kk⟩

set_option maxHeartbeats 4000000 in
theorem main (x0 : Addr) (len cap : Nat) (z : List Int) (ex : Nat) (w : World) (hl : len ≤ 4096) (hex : ex ≤ 65536) (r0 : IsRow (.int .i64) 0 w (some x0) len cap z) (hz : ∀ v ∈ z, (Lit.int .i64 v).wf = true) :
    Calls Try.prog 7 #[.slice (some x0) len cap, .int .i64 ex] w fun e w' => e = .returned (.bool true) ∧ Below w.heap.size w w' := by
  have l0 := Lib.hid r0.1
  have hnn := fun (w : World) (a : Option Addr) (n c n' c' : Nat) => run_neq_slice_nil_any (P := Try.prog) w 38 3 a n c n' c' Try.underlying38
  have hmk := run_make_row' (P := Try.prog) 38 3 (.int .i64 0) 8 Try.underlying38 infoI rfl .i64 .i64 len (by omega) (by omega)
  have hc := Lib.hid r0.2.2.2.2
  have R0 := Lib.hid r0
  clear r0
  go_enter Try.func7, Try.ntmps7
  go_wp2_with (go_at_call 23; go_in)
  go_loopw [5, 6] (fun t i wr => ∃ k : Nat, k ≤ len ∧ i = .int .i64 k ∧ t = .int .i64 (S z k : Nat) ∧ S z k ≤ 65536 ∧ Hid (∀ j, j < k → 0 ≤ z.getD j 0 ∧ z.getD j 0 ≤ 65536) ∧ w = wr) (fun _ i _ => len - (intOf i).toNat)
  case atStart => exact ⟨0, Nat.zero_le _, rfl, by simp [S_zero], by simp [S_zero], Lib.hid (fun j hj => by omega), rfl⟩
  case round =>
    obtain ⟨k, hk, rfl, rfl, hs, BD, rfl⟩ := hrel
    by_cases hlt : k < len
    · obtain ⟨b0, off0, hx0, hb0, hc0⟩ := row_some R0.out (by omega)
      have HC := Lib.hid (hc0 k hlt)
      have HX0 := Lib.hid hx0
      rw [hx0]
      clear hx0 hc0
      have HS := Lib.hid (S_succ z k (by have := l0.out; omega))
      obtain ⟨x, hx⟩ : ∃ x, z.getD k 0 = x := ⟨_, rfl⟩
      have hxb : -9223372036854775808 ≤ x ∧ x ≤ 9223372036854775807 := by
        have e : k < z.length := by have := l0.out; omega
        have := i64_bd (hz z[k] (List.getElem_mem e))
        rw [← hx]
        simpa [List.getD, e] using this
      have hcell : w.cell? ⟨b0, off0 + k, none⟩ = some (.int .i64 x) := by rw [← hx]; exact HC.out
      have HXX := Lib.hid hx
      clear hx
      have hlt' : (k : Int) < (len : Int) := by omega
      by_cases c1 : x < 0
      · go_wp2_with fail
        go_ret
        exact ⟨rfl, Below.refl _ _⟩
      by_cases c2 : 65536 < x
      · have c1' : decide (x < 0) = false := by simpa using c1
        go_wp2_with fail
        go_ret
        exact ⟨rfl, Below.refl _ _⟩
      obtain ⟨n, rfl⟩ := Int.eq_ofNat_of_zero_le (show 0 ≤ x by omega)
      have c1' : decide ((n : Int) < 0) = false := by simp
      have c2' : decide (65536 < (n : Int)) = false := by simpa using c2
      have hn2 : (n : Int) ≤ 65536 := by omega
      clear c1 c2
      have E6 := Lib.hid (show S z (k + 1) = S z k + n by rw [HS.out, HXX.out]; simp)
      by_cases c3 : (65536 : Int) < ((S z k : Nat) : Int) + (n : Int)
      · go_wp2_with fail
        go_ret
        exact ⟨rfl, Below.refl _ _⟩
      have c3' : decide ((65536 : Int) < ((S z k : Nat) : Int) + (n : Int)) = false := by simpa using c3
      go_wp2_with fail
      go_roundw
      case rel =>
        refine ⟨k + 1, by omega, by go_num, by rw [E6.out]; go_num, by rw [E6.out]; omega, Lib.hid (fun j hj => ?_), by first | rfl | trivial⟩
        by_cases e : j < k
        · exact BD.out j e
        · obtain rfl : j = k := by omega
          rw [HXX.out]
          omega
      case measure => simp [intOf]; omega
    · obtain rfl : len = k := by omega
      have ST := Lib.hid hs
      have M := World.rowIs_made w (Value.int .i64 0) len 3
      have bb : Below w.heap.size w (w.alloc (.cells (madeCells #[.int .i64 0] len) 3)) := (Below.refl w.heap.size w).alloc (Nat.le_refl _) _
      go_wp2_with fail
      obtain ⟨G0, hG0⟩ : ∃ G, w.heap.size = G := ⟨_, rfl⟩
      obtain ⟨w0, h0⟩ : ∃ v, w.alloc (.cells (madeCells #[.int .i64 0] len) 3) = v := ⟨_, rfl⟩
      rw [hG0] at M ⊢
      rw [h0] at M bb ⊢
      have hGw : w.heap.size ≤ G0 := by omega
      clear h0 hG0 hmk hnn
      go_loopw [9] (fun i wr => ∃ k : Nat, k ≤ len ∧ i = .int .i64 k ∧ Hid (wr.rowIs G0 3 len (fun j => .int .i64 (if j < k then z.getD j 0 else 0))) ∧ Below w.heap.size w wr) (fun i _ => len - (intOf i).toNat)
      case atStart => exact ⟨0, Nat.zero_le _, rfl, Lib.hid (M.congr fun i _ => by simp), bb⟩
      case round =>
        obtain ⟨k, hk, rfl, RK, hbel⟩ := hrel
        by_cases hlt : k < len
        · obtain ⟨b0, off0, hx0, hb0, hc0⟩ := row_some R0.out (by omega)
          obtain ⟨x, hx⟩ : ∃ x, z.getD k 0 = x := ⟨_, rfl⟩
          have hcell : wr.cell? ⟨b0, off0 + k, none⟩ = some (.int .i64 x) := by rw [← hx]; exact (hbel.cell (p := ⟨b0, off0 + k, none⟩) hb0).trans (hc0 k hlt)
          have HXX := Lib.hid hx
          have HX0 := Lib.hid hx0
          rw [hx0]
          clear hx hx0 hc0
          have hlt' : (k : Int) < (len : Int) := by omega
          have hd := RK.out.cell (i := k) hlt
          have hf := RK.out.frozen k
          go_wp2_with fail
          go_roundw
          case rel =>
            refine ⟨k + 1, by omega, by go_num, Lib.hid ((RK.out.set k _).congr fun i hi => ?_), hbel.setCell (p := ⟨G0, k, none⟩) hGw _⟩
            have hv := HXX.out
            by_cases e : i = k
            · subst e
              rw [if_pos rfl, if_pos (by omega), hv]
            · rw [if_neg e]
              by_cases l : i < k
              · rw [if_pos l, if_pos (by omega)]
              · rw [if_neg l, if_neg (by omega)]
          case measure => simp [intOf]; omega
        · obtain rfl : len = k := by omega
          have RW := Lib.hid (rowIs_row (RK.out.congr (g := fun i => .int .i64 (z.getD i 0)) fun i hi => by simp [hi]) l0.out (by omega))
          have B := hbel
          have hb0 := RK.out.lt
          obtain ⟨w1, hw⟩ : ∃ v, v = wr := ⟨_, rfl⟩
          rw [← hw] at RW B hb0 ⊢
          clear RK hbel M bb hw
          go_wp2_with fail
          refine (zzPool_any 0 _).mono ?_
          rintro e w2 ⟨rfl, PL, z2, b2⟩
          have PL0 := Lib.hid PL
          clear PL
          go_wp2_with fail
          refine (newBlock_any _ none _).mono ?_
          rintro e w3 ⟨rfl, K, z3, b3⟩
          have ch : Chain w3 w3.heap.size (some ⟨w2.heap.size + 1, 0, none⟩) [0] := by
            obtain ⟨a, c, xs, hs, _⟩ := PL0.out
            refine ⟨w2.heap.size + 1, w1.heap.size + 1, a, c, none, rfl, by omega, by omega, K.cell (i := 0) (by omega), K.cell (i := 2) (by omega), ?_, rfl⟩
            exact (b3.cell (p := ⟨w1.heap.size + 1, 0, none⟩) (show w1.heap.size + 1 < w2.heap.size by omega)).trans (hs.cell (i := 0) (by omega))
          have B3 := bel_trans (bel_trans B b2 B.size) b3 (by have := B.size; omega)
          have RB := Lib.hid (b2.trans (b3.mono (show w1.heap.size ≤ w2.heap.size by omega)))
          have CH := Lib.hid ch
          clear ch K PL0 b2 b3
          have hg : w1.heap.size ≤ w3.heap.size := by omega
          have hw1 := B.size
          generalize w2.heap.size + 1 = blk0 at *
          clear z2 z3
          go_wp2_with fail
          go_loopw [10, 11] (fun bl i wr => ∃ (k : Nat) (q : Option Addr) (ns : List Nat), k ≤ len ∧ i = .int .i64 k ∧ bl = .pointer q ∧ Hid (Chain wr wr.heap.size q ns) ∧ Hid (ns.sum = S z k) ∧ w1.heap.size ≤ wr.heap.size ∧ Below w.heap.size w wr ∧ Hid (Below w1.heap.size w1 wr)) (fun _ i _ => len - (intOf i).toNat)
          case atStart => exact ⟨0, _, [0], Nat.zero_le _, rfl, rfl, CH, Lib.hid (by simp [S_zero]), hg, B3, RB⟩
          case round =>
            obtain ⟨k, q, ns, hk, rfl, rfl, CK, NS, gk, Bk, RK⟩ := hrel
            by_cases hlt : k < len
            · have HC := Lib.hid (row_cell RW.out hlt)
              have HS := Lib.hid (S_succ z k (by have := l0.out; omega))
              have HL := Lib.hid (S_le z (k + 1) len (by omega))
              have cb := BD.out k hlt
              obtain ⟨n, hn⟩ : ∃ n : Nat, z.getD k 0 = (n : Int) := ⟨(z.getD k 0).toNat, by omega⟩
              have HN := Lib.hid hn
              have hn2 : n ≤ 65536 := by omega
              have hsk : S z k + n ≤ 65536 := by
                have e1 := HS.out
                have e2 := HL.out
                have e3 := ST.out
                rw [HN.out] at e1
                simp only [Int.toNat_natCast] at e1
                omega
              have hcell : wr.cell? ⟨G0, k, none⟩ = some (.int .i64 n) := by rw [← HN.out]; exact (RK.out.cell (p := ⟨G0, k, none⟩) hb0).trans HC.out
              clear cb hn
              have hlt' : (k : Int) < (len : Int) := by omega
              have hG : ∃ G, wr.heap.size = G := ⟨_, rfl⟩
              go_wp2_with fail
              refine (zzPool_any 0 _).mono ?_
              rintro e w4 ⟨rfl, PL, z4, b4⟩
              obtain ⟨G, hG⟩ := hG
              rw [hG] at CK PL z4 b4 gk ⊢
              have PL0 := Lib.hid PL
              have CK4 := Lib.hid (CK.out.below b4)
              have Bk4 := Bk.trans (b4.mono (show w.heap.size ≤ G by omega))
              have RK4 := Lib.hid (RK.out.trans (b4.mono gk))
              clear PL CK b4 hcell hG
              go_wp2_with fail
              go_loopw [13] (fun j wq => ∃ m : Nat, m ≤ n ∧ j = .int .i64 m ∧ Hid (Pool wq G (G + 1) m 0) ∧ w4.heap.size ≤ wq.heap.size ∧ Hid (Below G w4 wq)) (fun j _ => n - (intOf j).toNat)
              case atStart => exact ⟨0, Nat.zero_le _, rfl, PL0, Nat.le_refl _, Lib.hid (Below.refl _ _)⟩
              case round =>
                obtain ⟨m, hm, rfl, PM, gm, BM⟩ := hrel
                have RQ := Lib.hid (RK4.out.trans (BM.out.mono gk))
                have hcell : wr.cell? ⟨G0, k, none⟩ = some (.int .i64 n) := by rw [← HN.out]; exact (RQ.out.cell (p := ⟨G0, k, none⟩) hb0).trans HC.out
                by_cases hmn : m < n
                · have hmn' : (m : Int) < (n : Int) := by omega
                  go_wp2_with fail
                  refine (register_any G (G + 1) m 0 _ _ PM.out (by omega) (by omega) (by omega) (by omega)).mono ?_
                  rintro e w5 ⟨⟨r, rfl⟩, P5, z5, b5, -⟩
                  have PP := Lib.hid P5
                  have BB := Lib.hid (BM.out.trans b5)
                  clear P5 b5 hcell
                  go_wp2_with fail
                  go_roundw
                  case rel => exact ⟨m + 1, by omega, by go_num, PP, by omega, BB⟩
                  case measure => simp [intOf]; omega
                · obtain rfl : n = m := by omega
                  have hmn' : decide ((n : Int) < (n : Int)) = false := by simp
                  have hle : (S z k : Int) + (n : Int) ≤ 65536 := by omega
                  go_wp2_with fail
                  refine (newBlock_any _ q _).mono ?_
                  rintro e w6 ⟨rfl, K, z6, b6⟩
                  have gW := BM.out.size
                  have ch : Chain w6 w6.heap.size (some ⟨wr.heap.size + 1, 0, none⟩) (n :: ns) := by
                    obtain ⟨a, c, xs, hs, _⟩ := PM.out
                    refine ⟨wr.heap.size + 1, G + 1, a, c, q, rfl, by omega, by omega, K.cell (i := 0) (by omega), K.cell (i := 2) (by omega), ?_, ?_⟩
                    · exact (b6.cell (p := ⟨G + 1, 0, none⟩) (show G + 1 < wr.heap.size by omega)).trans (hs.cell (i := 0) (by omega))
                    · exact (((CK4.out.below BM.out).mono (show G ≤ wr.heap.size by omega)).below b6).mono (by omega)
                  have C6 := Lib.hid ch
                  have N6 := Lib.hid (show (n :: ns).sum = S z (k + 1) by rw [HS.out, HN.out, List.sum_cons, NS.out]; simp; omega)
                  have B6 := (Bk4.trans (BM.out.mono (show w.heap.size ≤ G by omega))).trans (b6.mono (by omega))
                  have R6 := Lib.hid (RQ.out.trans (b6.mono (show w1.heap.size ≤ wr.heap.size by omega)))
                  have e6 : (S z (k + 1) : Nat) = S z k + n := by rw [HS.out, HN.out]; simp
                  have E6 := Lib.hid e6
                  have g6 := b6.size
                  clear ch K b6 hcell e6
                  go_wp2_with fail
                  go_roundw
                  case rel => exact ⟨k + 1, _, n :: ns, by omega, by go_num, rfl, C6, N6, by omega, B6, R6⟩
                  case measure => simp [intOf]; omega
            · obtain rfl : len = k := by omega
              have hT := ST.out
              obtain ⟨T, hTT⟩ : ∃ T, S z len = T := ⟨_, rfl⟩
              rw [hTT] at NS hT ⊢
              have HTT := Lib.hid hTT
              clear hTT
              go_wp2_with fail
              refine (count_any _ q ns T _ CK.out NS.out (by omega)).mono ?_
              rintro e v1 ⟨rfl, k1, hv1⟩
              have CV := Lib.hid (show Chain (wr.drewN k1) (wr.drewN k1).heap.size q ns from CK.out.below ⟨rfl, rfl, rfl, Nat.le_refl _, fun _ _ => rfl⟩)
              have BV := below_drewN Bk k1
              rw [hv1] at CV BV
              clear CK Bk RK hv1
              go_wp2_with fail
              refine (zzPool_any T _).mono ?_
              rintro e v2 ⟨rfl, PL, y2, c2⟩
              have PL0 := Lib.hid PL
              have CV2 := Lib.hid (CV.out.below c2)
              have BV2 := bel_trans BV c2 BV.size
              obtain ⟨G, hG⟩ : ∃ G, v1.heap.size = G := ⟨_, rfl⟩
              have sG := BV.size
              rw [hG] at PL0 y2 CV2 sG ⊢
              clear PL c2 CV hG BV
              go_wp2_with fail
              refine (newBlock_any _ q _).mono ?_
              rintro e v3 ⟨rfl, K, y3, c3⟩
              have ch : Chain v3 v3.heap.size (some ⟨v2.heap.size + 1, 0, none⟩) (0 :: ns) := by
                obtain ⟨a, c, xs, hs, _⟩ := PL0.out
                refine ⟨v2.heap.size + 1, G + 1, a, c, q, rfl, by omega, by omega, K.cell (i := 0) (by omega), K.cell (i := 2) (by omega), ?_, ?_⟩
                · exact (c3.cell (p := ⟨G + 1, 0, none⟩) (show G + 1 < v2.heap.size by omega)).trans (hs.cell (i := 0) (by omega))
                · exact ((CV2.out.mono (show G ≤ v2.heap.size by omega)).below c3).mono (by omega)
              have PL3 := Lib.hid (PL0.out.below c3)
              have KK := Lib.hid K
              have CV3 := Lib.hid (CV2.out.below (c3.mono (show G ≤ v2.heap.size by omega)))
              have BV3 := bel_trans BV2 c3 BV2.size
              have CH := Lib.hid ch
              obtain ⟨L, hL⟩ : ∃ L, v2.heap.size + 1 = L := ⟨_, rfl⟩
              have gL : G + 2 ≤ L ∧ L + 1 = v3.heap.size := by omega
              have LL : v2.heap.size = L - 1 := by omega
              rw [hL] at CH KK ⊢
              rw [LL] at KK
              clear ch K PL0 CV2 c3 BV2 hL y2 y3
              go_wp2_with fail
              refine (count_any _ (some ⟨L, 0, none⟩) (0 :: ns) T _ CH.out (by rw [List.sum_cons, NS.out]; omega) (by omega)).mono ?_
              rintro e v4 ⟨rfl, k4, hv4⟩
              have d4 : Below v3.heap.size v3 (v3.drewN k4) := ⟨rfl, rfl, rfl, Nat.le_refl _, fun _ _ => rfl⟩
              have PL4 := Lib.hid (show Pool (v3.drewN k4) G (G + 1) 0 (T : Nat) from PL3.out)
              have K4 := Lib.hid (show (v3.drewN k4).rowIs L 63 8 _ from KK.out)
              have C4 := Lib.hid (show Chain (v3.drewN k4) G q ns from CV3.out.below ⟨rfl, rfl, rfl, Nat.le_refl _, fun _ _ => rfl⟩)
              have B4 := below_drewN BV3 k4
              have s4 : (v3.drewN k4).heap.size = v3.heap.size := rfl
              rw [hv4] at PL4 K4 C4 B4 s4
              clear hv4 d4 CH PL3 KK CV3 BV3
              go_wp2_with fail
              go_loopw [18] (fun j wq => ∃ m : Nat, m ≤ ex ∧ j = .int .i64 m ∧ Hid (Pool wq G (G + 1) m (T : Nat)) ∧ v4.heap.size ≤ wq.heap.size ∧ Hid (Below G v4 wq) ∧ Hid (wq.rowIs L 63 8 (lf [.pointer (some ⟨G + 1, 0, none⟩), .int .i64 0, .pointer q, .bool false, .int .i64 0, .int .i64 0, .map (some (L - 1)), .int .i64 0]))) (fun j _ => ex - (intOf j).toNat)
              case atStart => exact ⟨0, Nat.zero_le _, rfl, PL4, Nat.le_refl _, Lib.hid (Below.refl _ _), Lib.hid (K4.out.congr fun i hi => by
                match i, hi with
                | 0, _ => rfl
                | 1, _ => rfl
                | 2, _ => rfl
                | 3, _ => rfl
                | 4, _ => rfl
                | 5, _ => rfl
                | 6, _ => rfl
                | 7, _ => rfl)⟩
              case round =>
                obtain ⟨m, hm, rfl, PM, gm, BM, KM⟩ := hrel
                by_cases hme : m < ex
                · have hme' : (m : Int) < (ex : Int) := by omega
                  go_wp2_with fail
                  refine (register_any G (G + 1) m (T : Nat) _ _ PM.out (by omega) (by omega) (by omega) (by omega)).mono ?_
                  rintro e v5 ⟨⟨r, rfl⟩, P5, z5, b5, k5⟩
                  have PP := Lib.hid P5
                  have BB := Lib.hid (BM.out.trans b5)
                  have KP := Lib.hid (k5 L _ _ _ (by decide) (by omega) KM.out)
                  clear P5 b5 k5
                  go_wp2_with fail
                  go_roundw
                  case rel => exact ⟨m + 1, by omega, by go_num, PP, by omega, BB, KP⟩
                  case measure => simp [intOf]; omega
                · obtain rfl : ex = m := by omega
                  have CQ := Lib.hid (C4.out.below BM.out)
                  have gG : G ≤ wr.heap.size := by omega
                  have cl : Chain wr (L + 1) (some ⟨L, 0, none⟩) (ex :: ns) := by
                    obtain ⟨a, c, xs, hs, _⟩ := PM.out
                    exact ⟨L, G + 1, a, c, q, rfl, by omega, by omega, KM.out.cell (i := 0) (by omega), KM.out.cell (i := 2) (by omega), hs.cell (i := 0) (by omega), CQ.out.mono (by omega)⟩
                  have CL := Lib.hid cl
                  have BW := B4.trans (BM.out.mono sG)
                  clear cl C4 KM PM BM K4
                  have hsum2 : T + ex ≤ 131072 := by omega
                  go_wp2_with fail
                  refine (count_any _ (some ⟨L, 0, none⟩) (ex :: ns) (T + ex) _ CL.out (by rw [List.sum_cons, NS.out]; omega) (by omega)).mono ?_
                  rintro e v7 ⟨rfl, k7, hv7⟩
                  have C7 := Lib.hid (show Chain (wr.drewN k7) G q ns from CQ.out.below ⟨rfl, rfl, rfl, Nat.le_refl _, fun _ _ => rfl⟩)
                  have B7 := below_drewN BW k7
                  rw [hv7] at C7 B7
                  rw [show ((T + ex : Nat) : Int) = (T : Int) + (ex : Int) from Int.natCast_add _ _]
                  clear hv7 CL CQ BW
                  go_wp2_with fail
                  refine (count_any _ q ns T _ C7.out NS.out (by omega)).mono ?_
                  rintro e w' ⟨rfl, kk, rfl⟩
                  go_wp2_with fail
                  go_ret
                  exact ⟨rfl, below_drewN B7 kk⟩

set_option maxHeartbeats 1000000 in
theorem walk (a0 : Option Addr) (len0 cap0 : Nat) (z0 : List Int) (a1 : Int) (w : World) (r0 : IsRow (.int .i64) 0 w a0 len0 cap0 z0) (w0 : ∀ z ∈ z0, (Lit.int .i64 z).wf = true) (w1 : (Lit.int .i64 a1).wf = true) :
    Calls Try.prog 7 #[.slice a0 len0 cap0, .int .i64 a1] w fun e w' => e = .returned (.bool true) ∧ Below w.heap.size w w' := by
  have hv1 := i64_bd w1
  have m0 := r0.2.1
  have m0' := r0.2.2.1
  unfold maxLen at m0'
  by_cases g0 : (1048576 : Int) < (len0 : Int)
  · clear r0
    go_enter Try.func7, Try.ntmps7
    go_wp2_with (go_at_call 23; go_in)
    all_goals (go_ret; exact ⟨rfl, Below.refl _ _⟩)
  by_cases g1 : (4096 : Int) < (len0 : Int)
  · clear r0
    go_enter Try.func7, Try.ntmps7
    go_wp2_with (go_at_call 23; go_in)
    all_goals (go_ret; exact ⟨rfl, Below.refl _ _⟩)
  by_cases g2 : a1 < 0
  · clear r0
    go_enter Try.func7, Try.ntmps7
    go_wp2_with (go_at_call 23; go_in)
    all_goals (go_ret; exact ⟨rfl, Below.refl _ _⟩)
  by_cases g3 : 65536 < a1
  · clear r0
    go_enter Try.func7, Try.ntmps7
    go_wp2_with (go_at_call 23; go_in)
    all_goals (go_ret; exact ⟨rfl, Below.refl _ _⟩)
  obtain ⟨ex, rfl⟩ := Int.eq_ofNat_of_zero_le (show 0 ≤ a1 by omega)
  cases a0 with
  | none =>
    obtain rfl : cap0 = 0 := r0.2.2.2.1 rfl
    obtain rfl : len0 = 0 := by omega
    have e : z0 = [] := List.length_eq_zero_iff.1 r0.1
    exact main_nil z0 ex w e (by omega)
  | some x0 => exact main x0 len0 cap0 z0 ex w (by omega) (by omega) r0 w0
end Go.Proofs.Ytpkolfmdockdnaa.fnLocalVarsCountLeafRegistration
