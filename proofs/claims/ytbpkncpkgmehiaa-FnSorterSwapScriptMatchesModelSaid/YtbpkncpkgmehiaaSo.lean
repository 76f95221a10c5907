/- The sorter of n005_61: its row of numbers in memory; maker, Swap, Len, reader. -/
import Derived.Test.YtbpkncpkgmehiaaRows2
import Derived.Laws.Entries
namespace Go.Proofs.Ytbpkncpkgmehiaa
open Go.ChangeShapes Go.WideShapes Go.ChangeAt Go.RowKit
set_option linter.unusedVariables false

theorem run_store_iface (P : Program) (w : World) (a : Addr) (m : Mode) (t : TypeId) (v : Value) : (store a (.iface t v) m).run P w = stored P w a (.iface t v) m := run_store P w a _ m rfl
theorem run_store_nilIface (P : Program) (w : World) (a : Addr) (m : Mode) : (store a .nilIface m).run P w = stored P w a .nilIface m := run_store P w a _ m rfl
theorem run_store_fl (P : Program) (w : World) (a : Addr) (m : Mode) (k : FloatKind) (b : Nat) : (store a (.float k b) m).run P w = stored P w a (.float k b) m := run_store P w a _ m rfl
theorem as_num (v : Value) (w : World) : (Instr.typeAssert (.iface 75 v) 77 75 true).run Try.prog w = .ok (.tuple #[v, .bool true]) w := by kernel_rfl
attribute [local go_sem] run_store_iface run_store_nilIface run_store_fl as_num

/-- A number as a value of the interface. -/
abbrev num (v : Nat) : Value := .iface 75 (.float .f64 v)
/-- A row of numbers, made as far as k. -/
def numTo (z : List Nat) (k i : Nat) : Value := if i < k then num (z.getD i 0) else .nilIface
def nums (z : List Nat) (i : Nat) : Value := num (z.getD i 0)
theorem numTo_set (z : List Nat) (k i : Nat) : (if i = k then num (z.getD k 0) else numTo z k i) = numTo z (k + 1) i := by
  unfold numTo
  by_cases e : i = k
  · subst e
    simp
  · rw [if_neg e]
    by_cases l : i < k
    · rw [if_pos l, if_pos (by omega)]
    · rw [if_neg l, if_neg (by omega)]

/-- A row's content, from the list of its cells. -/
def lf (l : List Value) : Nat → Value := fun i => l.getD i undef
theorem lf_at (w : World) (l : List Value) (T k : Nat) (hk : k = w.heap.size) : (w.alloc (.cells l.toArray T)).rowIs k T l.length (lf l) := by
  subst hk
  have := World.rowIs_alloc w l.toArray T (lf l) (fun i hi => by
    have hi' : i < l.length := by simpa using hi
    simp [lf, List.getD, hi'])
  simpa using this
theorem row3 {w : World} {g T : Nat} {x y z : Value} (h : w.rowIs g T 3 (lf [x, y, z])) : w.heap[g]? = some (.cells #[x, y, z] T (0, 0)) := by
  obtain ⟨cs, hc, hs, hv⟩ := h
  have e : cs = #[x, y, z] := by
    refine Array.ext (by simpa using hs) fun i h1 h2 => ?_
    have := hv i (by omega)
    rw [Array.getElem?_eq_getElem h1] at this
    injection this with this
    rw [this]
    match i, h2 with
    | 0, _ => rfl
    | 1, _ => rfl
    | 2, _ => rfl
  rw [hc, e]
theorem infoLV : (Try.prog.info? 77).map (fun i => (i.zero, i.size, i.bytes)) = some (some Value.nilIface, 1, 16) := by kernel_rfl
theorem infoF : (Try.prog.info? 42).map (fun i => (i.zero, i.size, i.bytes)) = some (some (Value.float .f64 0), 1, 8) := by kernel_rfl

theorem newSorter_any (a : Option Addr) (n cap : Nat) (z : List Nat) (w : World) (r0 : IsRow (.float .f64) 0 w a n cap z) (hn : n ≤ 1048576) :
    Calls Try.prog 15 #[.slice a n cap] w fun e w' => ∃ g, e = .returned (.agg #[.pointer none, .pointer none, .slice (some ⟨g, 0, none⟩) n n]) ∧ w.heap.size ≤ g ∧ w'.rowIs g 77 n (nums z) ∧ Below w.heap.size w w' := by
  have hc := r0.2.2.2.2
  have hmk := run_make_row' (P := Try.prog) 36 77 .nilIface 16 Try.underlying36 infoLV rfl .i64 .i64 n (by omega) (by omega)
  go_enter Try.func15, Try.ntmps15
  go_wp2
  have M := World.rowIs_made (w.alloc (.cells #[.pointer none, .pointer none, .slice none 0 0] 38)) Value.nilIface n 77
  have bb : Below w.heap.size w ((w.alloc (.cells #[.pointer none, .pointer none, .slice none 0 0] 38)).alloc (.cells (madeCells #[.nilIface] n) 77)) := ((Below.refl w.heap.size w).alloc (Nat.le_refl _) _).alloc (by simp) _
  have S := (lf_at w [.pointer none, .pointer none, .slice none 0 0] 38 _ rfl).alloc (.cells (madeCells #[.nilIface] n) 77)
  rw [World.size_alloc] at M
  replace S : World.rowIs _ w.heap.size 38 3 _ := S
  obtain ⟨G, hG⟩ : ∃ G, w.heap.size = G := ⟨_, rfl⟩
  obtain ⟨w1, h1⟩ : ∃ v, (w.alloc (.cells #[.pointer none, .pointer none, .slice none 0 0] 38)).alloc (.cells (madeCells #[.nilIface] n) 77) = v := ⟨_, rfl⟩
  rw [hG] at M S ⊢
  rw [h1] at M S bb ⊢
  clear h1 hmk
  go_loopw [4] (fun i wr => ∃ k : Nat, k ≤ n ∧ i = .int .i64 k ∧ Hid (wr.rowIs (G + 1) 77 n (numTo z k)) ∧ Hid (wr.rowIs G 38 3 (lf [.pointer none, .pointer none, .slice none 0 0])) ∧ Below w.heap.size w wr) (fun i _ => n - (intOf i).toNat)
  case atStart => exact ⟨0, Nat.zero_le _, rfl, Lib.hid (M.congr fun i _ => by simp [numTo]), Lib.hid S, bb⟩
  case round =>
    obtain ⟨k, hk, rfl, RK, RS, hbel⟩ := hrel
    by_cases hlt : k < n
    · obtain ⟨b, off, hx, hbl, hcl⟩ := hc (by omega)
      obtain ⟨v, hv⟩ : ∃ v, z.getD k 0 = v := ⟨_, rfl⟩
      have hcs : wr.cell? ⟨b, off + k, none⟩ = some (.float .f64 v) := by rw [← hv]; exact (hbel.cell (p := ⟨b, off + k, none⟩) hbl).trans (hcl k hlt)
      have HX := Lib.hid hx
      rw [hx]
      clear hx hcl hc
      have HV := Lib.hid hv
      clear hv
      have hlt' : (k : Int) < (n : Int) := by omega
      have hd := RK.out.cell (i := k) hlt
      have hf := RK.out.frozen k
      go_wp2
      go_roundw
      case rel =>
        refine ⟨k + 1, by omega, by go_num, Lib.hid ((RK.out.set k _).congr fun i hi => ?_), Lib.hid (RS.out.setOther (a := ⟨G + 1, k, none⟩) (show G ≠ G + 1 by omega) _), hbel.setCell (p := ⟨G + 1, k, none⟩) (show w.heap.size ≤ G + 1 by omega) _⟩
        rw [← HV.out]
        exact numTo_set z k i
      case measure => simp [intOf]; omega
    · obtain rfl : n = k := by omega
      have d0 : wr.cell? ⟨G, 0, none⟩ = some (.pointer none) := RS.out.cell (i := 0) (by omega)
      have d1 : wr.cell? ⟨G, 1, none⟩ = some (.pointer none) := RS.out.cell (i := 1) (by omega)
      have d2 : wr.cell? ⟨G, 2, none⟩ = some (.slice none 0 0) := RS.out.cell (i := 2) (by omega)
      have f0 := RS.out.frozen 0
      have f1 := RS.out.frozen 1
      have f2 := RS.out.frozen 2
      clear hc
      go_wp2
      have R3 := ((RS.out.set 0 (.pointer none)).set 1 (.pointer none)).set 2 (.slice (some ⟨G + 1, 0, none⟩) n n)
      have R4 := row3 (R3.congr (g := lf [.pointer none, .pointer none, .slice (some ⟨G + 1, 0, none⟩) n n]) fun i hi => by
        match i, hi with
        | 0, _ => rfl
        | 1, _ => rfl
        | 2, _ => rfl)
      have hsz : (Try.prog.info? 38).map (·.size) = some 3 := by kernel_rfl
      refine bodyPost_ret (results_cell_row rfl _ _ G _ _ _ _ rfl R4 Try.underlying38 rfl hsz) rfl ?_
      refine ⟨G + 1, rfl, by omega, (((RK.out.congr fun i hi => ?_).setOther (a := ⟨G, 0, none⟩) (show G + 1 ≠ G by omega) _).setOther (a := ⟨G, 1, none⟩) (show G + 1 ≠ G by omega) _).setOther (a := ⟨G, 2, none⟩) (show G + 1 ≠ G by omega) _, ((hbel.setCell (p := ⟨G, 0, none⟩) (show w.heap.size ≤ G by omega) _).setCell (p := ⟨G, 1, none⟩) (show w.heap.size ≤ G by omega) _).setCell (p := ⟨G, 2, none⟩) (show w.heap.size ≤ G by omega) _⟩
      simp [numTo, nums, hi]
end Go.Proofs.Ytbpkncpkgmehiaa
