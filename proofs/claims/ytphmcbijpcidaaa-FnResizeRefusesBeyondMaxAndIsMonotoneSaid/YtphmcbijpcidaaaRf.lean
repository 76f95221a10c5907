/- The registry's growing: forceResize, resize, checkSize. -/
import Derived.Test.YtphmcbijpcidaaaReg
import Derived.StillTailTactics
namespace Go.Proofs.Ytphmcbijpcidaaa
open Go.ChangeShapes Go.WideShapes Go.ChangeAt Go.RowKit
set_option linter.unusedVariables false
attribute [local go_sem] run_store_iface run_store_nilIface
section
variable {h g r n : Nat} {gb mx : Int} {z : List Nat} {k : Nat} {hit : Bool}

theorem force_any (m : Nat) (w : World) (R : Reg w h g r n k gb mx z k hit) (hk : k ≤ n) (hn : n ≤ 1048576) (hm : m ≤ 1048576) (hh : h ≠ r) (hg : g ≠ r) :
    Calls Try.prog 31 #[.pointer (some ⟨r, 0, none⟩), .int .i64 m] w fun e w' => e = .returned (.tuple #[]) ∧ ∃ g', w.heap.size ≤ g' ∧ g' < w'.heap.size ∧ Reg w' h g' r m k gb mx z (min k m) hit ∧ w.heap.size ≤ w'.heap.size ∧ Below r w w' := by
  have c0 : w.cell? ⟨r, 0, none⟩ = some (.slice (some ⟨g, 0, none⟩) n n) := R.rg.cell (i := 0) (by omega)
  have c1 : w.cell? ⟨r, 1, none⟩ = some (.int .i64 k) := R.rg.cell (i := 1) (by omega)
  have hk' : (k : Int) ≤ (n : Int) := by omega
  have hmk := run_make_row' (P := Try.prog) 43 60 .nilIface 16 Try.underlying43 infoLV rfl .i64 .i64 m (by omega) (by omega)
  go_enter Try.func31, Try.ntmps31
  go_wp2_with fail
  have M := World.rowIs_made w Value.nilIface m 60
  have R1 : Reg (w.alloc (.cells (madeCells #[.nilIface] m) 60)) h g r n k gb mx z k hit := ⟨R.fl.alloc _, R.ar.alloc _, R.rg.alloc _⟩
  have B1 : Below r w (w.alloc (.cells (madeCells #[.nilIface] m) 60)) := (Below.refl r w).alloc (Nat.le_of_lt R.rg.lt) _
  have hrw := R.rg.lt
  have hgw := R.ar.lt
  have hhw := R.fl.lt
  have sz : (w.alloc (.cells (madeCells #[.nilIface] m) 60)).heap.size = w.heap.size + 1 := by simp
  obtain ⟨G, hG⟩ : ∃ G, w.heap.size = G := ⟨_, rfl⟩
  obtain ⟨w1, h1⟩ : ∃ v, w.alloc (.cells (madeCells #[.nilIface] m) 60) = v := ⟨_, rfl⟩
  rw [hG] at M hrw hgw hhw sz ⊢
  rw [h1] at M R1 B1 sz ⊢
  clear h1 hmk c0 c1
  have c0 : w1.cell? ⟨r, 0, none⟩ = some (.slice (some ⟨g, 0, none⟩) n n) := R1.rg.cell (i := 0) (by omega)
  have c1 : w1.cell? ⟨r, 1, none⟩ = some (.int .i64 k) := R1.rg.cell (i := 1) (by omega)
  obtain ⟨cs, hcs, hsz, hval⟩ := M
  have hinfo : (Try.prog.info? 60).map (·.size) = some 1 := by kernel_rfl
  go_still_tail 10, (by kernel_rfl)
  refine wpList_copy_splice rfl (.tmp 7) (.tmp 16) 43 43 rfl 60 Try.underlying43 hinfo (some ⟨G, 0, none⟩) (some ⟨g, 0, none⟩) m m k n rfl rfl G 0 cs.toList 60 ?_ ((List.range (min k m)).map (slot z k)) ?_ ?_ ?_ ?_ G w1 ⟨rfl, rfl, rfl, Nat.le_refl _, fun _ _ => rfl⟩ (Nat.le_refl _) ?_
  · simpa using hcs
  · simp
  · intro _
    refine ⟨rfl, _, rfl, fun j v hj => ?_⟩
    have hjl : j < min k m := by
      by_cases hc : j < min k m
      · exact hc
      · rw [List.getElem?_eq_none (by simp; omega)] at hj
        cases hj
    have hv : slot z k j = v := by simpa [List.getElem?_range hjl] using hj
    have hcell := R1.ar.cell (i := j) (by omega)
    rw [hv] at hcell
    have hadd : (⟨g, 0, none⟩ : Addr).add j = ⟨g, j, none⟩ := by cases j <;> simp [Addr.add]
    rw [hadd]
    exact hcell
  · simp [hsz]
    omega
  · intro v hv
    simp at hv
    obtain ⟨i, _, rfl⟩ := hv
    unfold slot
    split <;> rfl
  intro w2 HG hb2
  have R2 := R1.below hhw hgw hrw hb2
  have d0 : w2.cell? ⟨r, 0, none⟩ = some (.slice (some ⟨g, 0, none⟩) n n) := R2.rg.cell (i := 0) (by omega)
  have df := R2.rg.frozen 0
  have s2 := hb2.size
  clear c0 c1 R R1
  go_wp2
  go_end0
  refine ⟨rfl, G, Nat.le_refl _, by simp; omega, ⟨R2.fl.setOther (a := ⟨r, 0, none⟩) hh _, ?_, (R2.rg.set 0 _).congr fun i hi => ?_⟩, by simp; omega, (B1.trans (hb2.mono (Nat.le_of_lt hrw))).setCell (p := ⟨r, 0, none⟩) (Nat.le_refl _) _⟩
  · refine World.rowIs.setOther (a := ⟨r, 0, none⟩) ?_ (show G ≠ r by omega) _
    refine ⟨_, HG.out, ?_, fun i hi => ?_⟩
    · simp only [List.size_toArray]
      rw [length_splice _ _ _ (by simp [hsz]; omega)]
      simpa using hsz
    · have hv := hval i hi
      simp only [splice, List.getElem?_toArray, List.take_zero, List.nil_append]
      by_cases l : i < min k m
      · rw [List.getElem?_append_left (by simpa using l)]
        have l1 : i < k := Nat.lt_of_lt_of_le l (Nat.min_le_left k m)
        rw [List.getElem?_map, List.getElem?_range l]
        simp [slot, l1, hi]
        exact l
      · rw [List.getElem?_append_right (by simpa using l)]
        simp
        rw [show min k m + (i - min k m) = i by omega, hv]
        simp [slot]
        omega
  · match i, hi with
    | 0, _ => rfl
    | 1, _ => rfl
    | 2, _ => rfl
    | 3, _ => rfl
    | 4, _ => rfl
    | 5, _ => rfl

theorem method_over (q : Addr) (w : World) : (method 183 49 (.pointer (some q)) "github.com/yuin/gopher-lua.registryOverflow").run Try.prog w = .ok (54, .pointer (some q)) w := by kernel_rfl
theorem resizeNo_any (q : Int) (w : World) (R : Reg w h g r n k gb mx z k hit) (hh : h ≠ r) (hg : g ≠ h) (hq0 : 0 ≤ q) (hq : q ≤ 65536) (hgb : 0 ≤ gb) (hgb2 : gb ≤ 65536) (hmx : mx < q) (hmx0 : 0 ≤ mx) :
    Calls Try.prog 37 #[.pointer (some ⟨r, 0, none⟩), .int .i64 q] w fun e w' => e = .returned (.tuple #[]) ∧ Reg w' h g r n k gb mx z k true ∧ w.heap.size = w'.heap.size ∧ Below h w w' := by
  have c2 : w.cell? ⟨r, 2, none⟩ = some (.int .i64 gb) := R.rg.cell (i := 2) (by omega)
  have c3 : w.cell? ⟨r, 3, none⟩ = some (.int .i64 mx) := R.rg.cell (i := 3) (by omega)
  have c5 : w.cell? ⟨r, 5, none⟩ = some (.iface 49 (.pointer (some ⟨h, 0, none⟩))) := R.rg.cell (i := 5) (by omega)
  have f0 : w.cell? ⟨h, 0, none⟩ = some (.bool hit) := R.fl.cell (i := 0) (by omega)
  have ff := R.fl.frozen 0
  have h1 : mx < q + gb := by omega
  have m1 := method_over ⟨h, 0, none⟩
  go_enter Try.func37, Try.ntmps37
  go_wp2
  go_end0
  go_wp2
  refine bodyPost_ret (results_none rfl _ _ _) rfl ?_
  refine ⟨rfl, ⟨(R.fl.set 0 _).congr fun i hi => ?_, R.ar.setOther (a := ⟨h, 0, none⟩) hg _, R.rg.setOther (a := ⟨h, 0, none⟩) (Ne.symm hh) _⟩, by simp, (Below.refl h w).setCell (p := ⟨h, 0, none⟩) (Nat.le_refl _) _⟩
  match i, hi with
  | 0, _ => rfl

theorem resizeYes_any (q : Int) (m : Nat) (w : World) (R : Reg w h g r n k gb mx z k hit) (hk : k ≤ n) (hn : n ≤ 1048576) (hh : h ≠ r) (hg : g ≠ r) (hq0 : 0 ≤ q) (hq : q ≤ 65536) (hgb : 0 ≤ gb) (hgb2 : gb ≤ 65536) (hmx : q ≤ mx) (hmx0 : mx ≤ 65536) (hm : (m : Int) = min (q + gb) mx) :
    Calls Try.prog 37 #[.pointer (some ⟨r, 0, none⟩), .int .i64 q] w fun e w' => e = .returned (.tuple #[]) ∧ ∃ g', w.heap.size ≤ g' ∧ g' < w'.heap.size ∧ Reg w' h g' r m k gb mx z (min k m) hit ∧ w.heap.size ≤ w'.heap.size ∧ Below r w w' := by
  have c2 : w.cell? ⟨r, 2, none⟩ = some (.int .i64 gb) := R.rg.cell (i := 2) (by omega)
  have c3 : w.cell? ⟨r, 3, none⟩ = some (.int .i64 mx) := R.rg.cell (i := 3) (by omega)
  by_cases h1 : mx < q + gb
  · obtain rfl : mx = (m : Int) := by omega
    clear hm
    have h2 : decide ((m : Int) < q) = false := by simp; omega
    go_enter Try.func37, Try.ntmps37
    go_wp2_with fail
    refine (force_any m _ R hk hn (by omega) hh hg).mono ?_
    rintro e w1 ⟨rfl, g', q1, q2, q3, q4, q5⟩
    have Q3 := Lib.hid q3
    clear q3
    go_wp2_with fail
    go_end0
    exact ⟨rfl, g', q1, q2, Q3.out, q4, q5⟩
  · have hm' : q + gb = (m : Int) := by omega
    have h2 : decide ((m : Int) < q) = false := by simp; omega
    have h3 : decide (mx < (m : Int)) = false := by simp; omega
    clear hm h1
    go_enter Try.func37, Try.ntmps37
    go_wp2_with fail
    refine (force_any m _ R hk hn (by omega) hh hg).mono ?_
    rintro e w1 ⟨rfl, g', q1, q2, q3, q4, q5⟩
    have Q3 := Lib.hid q3
    clear q3
    go_wp2_with fail
    go_end0
    exact ⟨rfl, g', q1, q2, Q3.out, q4, q5⟩
end
end Go.Proofs.Ytphmcbijpcidaaa
