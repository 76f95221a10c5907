/- Swap, Len, the reader of the sorter of n005_61; zzSameF. -/
import Derived.Test.YtbpkncpkgmehiaaSo
import Derived.Laws.FloatArith
namespace Go.Proofs.Ytbpkncpkgmehiaa
open Go.ChangeShapes Go.WideShapes Go.ChangeAt Go.RowKit
set_option linter.unusedVariables false
attribute [local go_sem] run_store_iface run_store_nilIface run_store_fl as_num

/-- The sorter's value over the row at g. -/
abbrev srt (g n : Nat) : Value := .agg #[.pointer none, .pointer none, .slice (some ⟨g, 0, none⟩) n n]
def swp (z : List Nat) (i j : Nat) : List Nat := (z.set i (z.getD j 0)).set j (z.getD i 0)
theorem swp_len (z : List Nat) (i j : Nat) : (swp z i j).length = z.length := by simp [swp]
theorem swp_at (z : List Nat) (i j k : Nat) (hi : i < z.length) (hj : j < z.length) : (swp z i j).getD k 0 = if k = j then z.getD i 0 else if k = i then z.getD j 0 else z.getD k 0 := by
  unfold swp
  by_cases e : k = j
  · subst e
    simp [List.getD, hj]
  · rw [if_neg e]
    by_cases e2 : k = i
    · subst e2
      rw [if_pos rfl]
      simp only [List.getD, List.getElem?_set_ne (Ne.symm e), List.getElem?_set_self hi]
      rfl
    · rw [if_neg e2]
      simp [List.getD, List.getElem?_set_ne (Ne.symm e), List.getElem?_set_ne (Ne.symm e2)]

theorem slen_any (g n : Nat) (w : World) : Calls Try.prog 22 #[srt g n] w fun e w' => e = .returned (.int .i64 n) ∧ Below w.heap.size w w' := by
  go_enter Try.func22, Try.ntmps22
  go_wp2
  go_ret
  exact ⟨rfl, (Below.refl w.heap.size w).alloc (Nat.le_refl _) _⟩

theorem one_div (v : Nat) (h : FloatKind.f64.format.order v v = some Ordering.eq) : ∃ r, floatBits .quo .f64 4607182418800017408 v = some r := by
  have h1 : FloatKind.f64.format.read 4607182418800017408 = .number false 4503599627370496 (-52) := by kernel_rfl
  unfold Ieee.Format.order at h
  show ∃ r, FloatKind.f64.format.div 4607182418800017408 v = some r
  unfold Ieee.Format.div
  rw [h1]
  cases hv : FloatKind.f64.format.read v with
  | nan => rw [hv] at h; simp [Ieee.Datum.order] at h
  | infinity s => exact ⟨_, rfl⟩
  | number s m i =>
    unfold Ieee.Datum.quotient
    by_cases hm : m = 0
    · subst hm
      exact ⟨_, rfl⟩
    · simp [hm]

theorem sameF_any (v : Nat) (w : World) : Calls Try.prog 18 #[.float .f64 v, .float .f64 v] w fun e w' => e = .returned (.bool true) ∧ w = w' := by
  by_cases hb : FloatKind.f64.format.order v v = some Ordering.eq
  · have h2 : (FloatKind.f64.format.order v v != some Ordering.eq) = false := by simpa using hb
    obtain ⟨r, hr⟩ := one_div v hb
    have hop : ∀ t w, (binOp .quo t (.float .f64 4607182418800017408) (.float .f64 v)).run Try.prog w = .ok (.float .f64 r) w := fun t w => run_float_arith w .quo t .f64 _ v r hr
    clear hr
    go_enter Try.func18, Try.ntmps18
    go_wp2
    all_goals (go_ret; exact ⟨by simp, rfl⟩)
  · have h2 : (FloatKind.f64.format.order v v != some Ordering.eq) = true := by simpa using hb
    go_enter Try.func18, Try.ntmps18
    go_wp2
    all_goals (go_ret; exact ⟨by simp, rfl⟩)

theorem swap_any (g n i j : Nat) (z : List Nat) (w : World) (R : w.rowIs g 77 n (nums z)) (hz : z.length = n) (hi : i < n) (hj : j < n) :
    Calls Try.prog 16 #[srt g n, .int .i64 i, .int .i64 j] w fun e w' => e = .returned (.tuple #[]) ∧ w'.rowIs g 77 n (nums (swp z i j)) ∧ w.heap.size ≤ w'.heap.size ∧ Below g w w' ∧ ∀ q, q < w.heap.size → q ≠ g → w'.heap[q]? = w.heap[q]? := by
  have hi' : (i : Int) < (n : Int) := by omega
  have hj' : (j : Int) < (n : Int) := by omega
  have hgw := R.lt
  have S := lf_at w [.pointer none, .pointer none, .slice (some ⟨g, 0, none⟩) n n] 38 _ rfl
  have R1 := R.alloc (.cells #[.pointer none, .pointer none, .slice (some ⟨g, 0, none⟩) n n] 38)
  have bb : Below g w (w.alloc (.cells #[.pointer none, .pointer none, .slice (some ⟨g, 0, none⟩) n n] 38)) := (Below.refl g w).alloc (Nat.le_of_lt hgw) _
  have bh : ∀ q, q < w.heap.size → (w.alloc (.cells #[.pointer none, .pointer none, .slice (some ⟨g, 0, none⟩) n n] 38)).heap[q]? = w.heap[q]? := fun q hq => ((Below.refl w.heap.size w).alloc (Nat.le_refl _) _).block q hq
  have sz : w.heap.size ≤ (w.alloc (.cells #[.pointer none, .pointer none, .slice (some ⟨g, 0, none⟩) n n] 38)).heap.size := by simp
  go_enter Try.func16, Try.ntmps16
  go_wp2
  replace S : World.rowIs (w.alloc (.cells #[.pointer none, .pointer none, .slice (some ⟨g, 0, none⟩) n n] 38)) w.heap.size 38 3 _ := S
  obtain ⟨w1, h1⟩ : ∃ v, w.alloc (.cells #[.pointer none, .pointer none, .slice (some ⟨g, 0, none⟩) n n] 38) = v := ⟨_, rfl⟩
  obtain ⟨H, hH⟩ : ∃ H, w.heap.size = H := ⟨_, rfl⟩
  rw [hH] at S sz hgw ⊢
  rw [h1] at S R1 bb bh sz ⊢
  clear h1 R
  have s2 : w1.cell? ⟨H, 2, none⟩ = some (.slice (some ⟨g, 0, none⟩) n n) := S.cell (i := 2) (by omega)
  obtain ⟨x, hx⟩ : ∃ x, z.getD i 0 = x := ⟨_, rfl⟩
  obtain ⟨y, hy⟩ : ∃ y, z.getD j 0 = y := ⟨_, rfl⟩
  have ci : w1.cell? ⟨g, i, none⟩ = some (.iface 75 (.float .f64 x)) := by rw [← hx]; exact R1.cell (i := i) hi
  have cj : w1.cell? ⟨g, j, none⟩ = some (.iface 75 (.float .f64 y)) := by rw [← hy]; exact R1.cell (i := j) hj
  have fi := R1.frozen i
  have fj := R1.frozen j
  have hgH : g ≠ H := by omega
  have HX := Lib.hid hx
  have HY := Lib.hid hy
  clear hx hy
  by_cases e : i = j
  · subst e
    obtain rfl : x = y := by rw [← HX.out, ← HY.out]
    clear cj fj hj'
    go_region
    go_wp2
    go_end0
    refine ⟨rfl, World.rowIs.of_block (w := (w1.setCell ⟨g, i, none⟩ (.iface 75 (.float .f64 x))).setCell ⟨g, i, none⟩ (.iface 75 (.float .f64 x))) (((R1.set i _).set i _).congr fun q hq => ?_) rfl, ?_, ?_, fun q hq hne => (Below.heap_setCell _ _ _ _ hne).trans ((Below.heap_setCell _ _ _ _ hne).trans (bh q (by omega)))⟩
    · have := swp_at z i i q (by omega) (by omega)
      unfold nums num
      rw [this, HX.out]
      by_cases e : q = i <;> simp [e, nums]
    · rw [hH]
      simpa using sz
    · have := (bb.setCell (p := ⟨g, i, none⟩) (Nat.le_refl _) (.iface 75 (.float .f64 x))).setCell (p := ⟨g, i, none⟩) (Nat.le_refl _) (.iface 75 (.float .f64 x))
      exact below_drewN this 1
  · go_region
    go_wp2
    go_end0
    refine ⟨rfl, World.rowIs.of_block (w := (w1.setCell ⟨g, i, none⟩ (.iface 75 (.float .f64 y))).setCell ⟨g, j, none⟩ (.iface 75 (.float .f64 x))) (((R1.set i _).set j _).congr fun q hq => ?_) rfl, ?_, ?_, fun q hq hne => (Below.heap_setCell _ _ _ _ hne).trans ((Below.heap_setCell _ _ _ _ hne).trans (bh q (by omega)))⟩
    · have := swp_at z i j q (by omega) (by omega)
      unfold nums num
      rw [this, HX.out, HY.out]
      by_cases e1 : q = j
      · simp [e1]
      · by_cases e2 : q = i <;> simp [e1, e2, nums, e]
    · rw [hH]
      simpa using sz
    · have := (bb.setCell (p := ⟨g, i, none⟩) (Nat.le_refl _) (.iface 75 (.float .f64 y))).setCell (p := ⟨g, j, none⟩) (Nat.le_refl _) (.iface 75 (.float .f64 x))
      exact below_drewN this 1

theorem nums_any (g n : Nat) (z : List Nat) (w : World) (R : w.rowIs g 77 n (nums z)) (hn : n ≤ 1048576) :
    Calls Try.prog 17 #[srt g n] w fun e w' => ∃ g', e = .returned (.slice (some ⟨g', 0, none⟩) n n) ∧ w.heap.size ≤ g' ∧ w'.rowIs g' 42 n (fun i => .float .f64 (z.getD i 0)) ∧ Below w.heap.size w w' := by
  have hgw := R.lt
  have hmk := run_make_row' (P := Try.prog) 32 42 (.float .f64 0) 8 Try.underlying32 infoF rfl .i64 .i64 n (by omega) (by omega)
  go_enter Try.func17, Try.ntmps17
  go_wp2
  have M := World.rowIs_made (w.alloc (.cells #[.pointer none, .pointer none, .slice (some ⟨g, 0, none⟩) n n] 38)) (Value.float .f64 0) n 42
  have bb : Below w.heap.size w ((w.alloc (.cells #[.pointer none, .pointer none, .slice (some ⟨g, 0, none⟩) n n] 38)).alloc (.cells (madeCells #[.float .f64 0] n) 42)) := ((Below.refl w.heap.size w).alloc (Nat.le_refl _) _).alloc (by simp) _
  have S := (lf_at w [.pointer none, .pointer none, .slice (some ⟨g, 0, none⟩) n n] 38 _ rfl).alloc (.cells (madeCells #[.float .f64 0] n) 42)
  rw [World.size_alloc] at M
  replace S : World.rowIs ((w.alloc (.cells #[.pointer none, .pointer none, .slice (some ⟨g, 0, none⟩) n n] 38)).alloc (.cells (madeCells #[.float .f64 0] n) 42)) w.heap.size 38 3 _ := S
  obtain ⟨H, hH⟩ : ∃ H, w.heap.size = H := ⟨_, rfl⟩
  obtain ⟨w1, h1⟩ : ∃ v, (w.alloc (.cells #[.pointer none, .pointer none, .slice (some ⟨g, 0, none⟩) n n] 38)).alloc (.cells (madeCells #[.float .f64 0] n) 42) = v := ⟨_, rfl⟩
  rw [hH] at M S ⊢
  rw [h1] at M S bb ⊢
  clear h1 hmk
  have RH := Lib.hid R
  clear R
  go_loopw [4] (fun i wr => ∃ k : Nat, k ≤ n ∧ i = .int .i64 k ∧ Hid (wr.rowIs (H + 1) 42 n (fun j => .float .f64 (if j < k then z.getD j 0 else 0))) ∧ Hid (wr.rowIs H 38 3 (lf [.pointer none, .pointer none, .slice (some ⟨g, 0, none⟩) n n])) ∧ Below w.heap.size w wr) (fun i _ => n - (intOf i).toNat)
  case atStart => exact ⟨0, Nat.zero_le _, rfl, Lib.hid (M.congr fun i _ => by simp), Lib.hid S, bb⟩
  case round =>
    obtain ⟨k, hk, rfl, RK, RS, hbel⟩ := hrel
    have d2 : wr.cell? ⟨H, 2, none⟩ = some (.slice (some ⟨g, 0, none⟩) n n) := RS.out.cell (i := 2) (by omega)
    by_cases hlt : k < n
    · obtain ⟨v, hv⟩ : ∃ v, z.getD k 0 = v := ⟨_, rfl⟩
      have hcs : wr.cell? ⟨g, k, none⟩ = some (.iface 75 (.float .f64 v)) := by rw [← hv]; exact (hbel.cell (p := ⟨g, k, none⟩) hgw).trans (RH.out.cell (i := k) hlt)
      have HV := Lib.hid hv
      clear hv
      have hlt' : (k : Int) < (n : Int) := by omega
      have hd := RK.out.cell (i := k) hlt
      have hf := RK.out.frozen k
      go_wp2
      go_roundw
      case rel =>
        refine ⟨k + 1, by omega, by go_num, Lib.hid ((RK.out.set k _).congr fun i hi => ?_), Lib.hid (RS.out.setOther (a := ⟨H + 1, k, none⟩) (show H ≠ H + 1 by omega) _), hbel.setCell (p := ⟨H + 1, k, none⟩) (show w.heap.size ≤ H + 1 by omega) _⟩
        have hv := HV.out
        by_cases e : i = k
        · subst e
          rw [if_pos rfl, if_pos (by omega), hv]
        · rw [if_neg e]
          by_cases l : i < k
          · rw [if_pos l, if_pos (by omega)]
          · rw [if_neg l, if_neg (by omega)]
      case measure => simp [intOf]; omega
    · obtain rfl : n = k := by omega
      go_wp2
      go_ret
      exact ⟨H + 1, rfl, by omega, RK.out.congr fun i hi => by simp [hi], hbel⟩
end Go.Proofs.Ytbpkncpkgmehiaa
