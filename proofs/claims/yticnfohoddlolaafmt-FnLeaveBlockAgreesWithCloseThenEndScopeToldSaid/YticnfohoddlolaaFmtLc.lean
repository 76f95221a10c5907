/- Contexts of n005_43 as a whole: what stands before and behind LeaveBlock, CloseUpvalues and EndScope, for both values of the reference mark. -/
import Derived.Test.YticnfohoddlolaaFmtLb
namespace Go.Proofs.YticnfohoddlolaaFmt
open Go.ChangeShapes Go.WideShapes Go.ChangeAt Go.RowKit
set_option linter.unusedVariables false
set_option maxRecDepth 100000

def mm (ref : Bool) (n : Nat) : Nat := if ref then n + 1 else n
def rv (ref : Bool) (t : Int) : Int := if ref then t else -1
def uu (ref : Bool) (v : Int) (U : List Int) : List Int := if ref then U ++ [v] else U

/-- The store at c: m instructions U with lines V, in arrays from lo on. -/
def Sto (w : World) (lo c m : Nat) (U V : List Int) : Prop := ∃ cc cl p q, w.rowIs c 63 3 (st3 (.slice cc m p) (.slice cl m q) (.int .i64 m)) ∧ w.ownsRow lo 36 1 (.slice cc m p) m (U.map (.int .u32)) ∧ w.ownsRow lo 3 1 (.slice cl m q) m (V.map (.int .i64))

/-- A context as ZZnewFC makes it at h, its debug infos at g. -/
structure Cx (w : World) (B lo h g : Nat) (ref : Bool) (po : Int) (an : Option Addr) (nn : Nat) (ai : Option Addr) (ni : Nat) (last : Int) (nd n : Nat) (z3 : List ByteArray) (U V : List Int) (e : Nat → Int) : Prop where
  F : FC0 w h ref po an nn nn ai ni ni last (some ⟨g, 0, none⟩) nd nd (h + 3) 0
  T : ∃ cc cl, w.rowIs (h + 5) 63 3 (st3 (.slice cc n n) (.slice cl n n) (.int .i64 n)) ∧ w.ownsRow lo 36 1 (.slice cc n n) n (U.map (.int .u32)) ∧ w.ownsRow lo 3 1 (.slice cl n n) n (V.map (.int .i64)) ∧ Rng cc lo h ∧ Rng cl lo h
  X : Got B w ai 9 ni (fun i => .string (z3.getD i ByteArray.empty))
  hX : ∀ x, ai = some x → x.block < h
  I : Infos w g nd e
  gh : g + nd < lo
  lh : lo ≤ h
/-- The same behind CloseUpvalues. -/
structure Mid (w : World) (B lo h g : Nat) (ref : Bool) (po : Int) (an : Option Addr) (nn : Nat) (ai : Option Addr) (ni : Nat) (last : Int) (nd m : Nat) (z3 : List ByteArray) (U V : List Int) (e : Nat → Int) : Prop where
  F : FC0 w h ref po an nn nn ai ni ni last (some ⟨g, 0, none⟩) nd nd (h + 3) 0
  S : Sto w lo (h + 5) m U V
  X : Got B w ai 9 ni (fun i => .string (z3.getD i ByteArray.empty))
  I : Infos w g nd e
  gh : g + nd < lo
  lh : lo ≤ h
/-- What is compared in the end. -/
structure Done (w : World) (lo h g nd m : Nat) (U V : List Int) (e : Nat → Int) : Prop where
  c1 : w.cell? ⟨h + 9, 1, none⟩ = some (.pointer (some ⟨h + 5, 0, none⟩))
  S : Sto w lo (h + 5) m U V
  I : Infos w g nd e

theorem own_hold {w w' : World} {lo T : Nat} {b : Option Addr} {n m : Nat} {xs : List Value} (h : w.ownsRow lo T 1 (.slice b n m) n xs) (hk : ∀ k, lo ≤ k → k < w.heap.size → (∃ x, b = some x ∧ x.block = k) → w'.heap[k]? = w.heap[k]?) : w'.ownsRow lo T 1 (.slice b n m) n xs := by
  obtain ⟨h1, h2 | ⟨g, cap, cur, hv, hg, hh, r⟩⟩ := h
  · exact ⟨h1, .inl h2⟩
  · refine ⟨h1, .inr ⟨g, cap, cur, hv, hg, (hk g hg (lt_of_block hh) ?_).trans hh, r⟩⟩
    cases hv
    exact ⟨_, rfl, rfl⟩
theorem own_diff {w : World} {B B' T T' x m p n q : Nat} {b : Option Addr} {xs ys : List Value} (h : w.ownsRow B T 1 (.slice (some ⟨x, 0, none⟩) m p) m xs) (h' : w.ownsRow B' T' 1 (.slice b n q) n ys) (hd : T ≠ T' ∨ (q = n ∧ n < m)) : some x ≠ (Value.slice b n q).ownBlock := by
  obtain ⟨_, ⟨h2, _⟩ | ⟨g, cap, cur, hv, _, hh, hmc, _, hsz, _⟩⟩ := h
  · cases h2
  cases hv
  obtain ⟨_, ⟨h2, _⟩ | ⟨g', cap', cur', hv', _, hh', hmc', _, hsz', _⟩⟩ := h'
  · cases h2
    simp [Value.ownBlock]
  cases hv'
  intro e
  simp [Value.ownBlock] at e
  subst e
  rw [hh] at hh'
  simp only [Option.some.injEq, Obj.cells.injEq] at hh'
  obtain ⟨rfl, rfl, _⟩ := hh'
  rcases hd with h | ⟨h1, h2⟩
  · exact h rfl
  · omega

section
variable {w : World} {B lo h g : Nat} {ref : Bool} {po : Int} {an : Option Addr} {nn : Nat} {ai : Option Addr} {ni : Nat} {last : Int} {nd n : Nat} {z3 : List ByteArray} {U V : List Int} {e : Nat → Int}

theorem Infos.hold {w' : World} (I : Infos w g nd e) (hk : ∀ k, g ≤ k → k ≤ g + nd → k < w.heap.size → w'.heap[k]? = w.heap[k]?) : Infos w' g nd e :=
  ⟨I.1.of_block (hk _ (Nat.le_refl _) (by omega) I.1.lt), fun i hi => (I.2 i hi).of_block (hk _ (by omega) (by omega) (I.2 i hi).lt)⟩
theorem Sto.hold {w' : World} {c : Nat} (S : Sto w lo c n U V) (hc : w'.heap[c]? = w.heap[c]?) (hk : ∀ x p T xs, w.ownsRow lo T 1 (.slice (some ⟨x, 0, none⟩) n p) n xs → (T = 36 ∨ T = 3) → x < w.heap.size → w'.heap[x]? = w.heap[x]?) : Sto w' lo c n U V := by
  obtain ⟨cc, cl, p, q, hs, h0, h1⟩ := S
  refine ⟨cc, cl, p, q, hs.of_block hc, own_hold h0 fun k _ hl ⟨x, hx, hxk⟩ => ?_, own_hold h1 fun k _ hl ⟨x, hx, hxk⟩ => ?_⟩
  · have ho := h0
    obtain ⟨_, ⟨h2, _⟩ | ⟨g, cap, cur, hv, _⟩⟩ := h0
    · cases h2; cases hx
    · cases hv
      cases hx
      cases hxk
      exact hk _ _ _ _ ho (.inl rfl) hl
  · have ho := h1
    obtain ⟨_, ⟨h2, _⟩ | ⟨g, cap, cur, hv, _⟩⟩ := h1
    · cases h2; cases hx
    · cases hv
      cases hx
      cases hxk
      exact hk _ _ _ _ ho (.inr rfl) hl
theorem Cx.hold {w' : World} (C : Cx w B lo h g ref po an nn ai ni last nd n z3 U V e) (K : Nat) (hg : K ≤ g) (hB : K ≤ B) (hk : ∀ k, K ≤ k → k < w.heap.size → w'.heap[k]? = w.heap[k]?) : Cx w' B lo h g ref po an nn ai ni last nd n z3 U V e := by
  have gh := C.gh
  have lh := C.lh
  have hl := C.F.fc.lt
  obtain ⟨cc, cl, hs, h0, h1, r0, r1⟩ := C.T
  refine ⟨C.F.keep fun k a b _ => hk k (by omega) (by omega), ⟨cc, cl, hs.of_block (hk _ (by omega) hs.lt), own_hold h0 fun k a b _ => hk k (by omega) b, own_hold h1 fun k a b _ => hk k (by omega) b, r0, r1⟩, ?_, C.hX, C.I.hold fun k a _ b => hk k (by omega) b, gh, lh⟩
  rcases C.X with h | ⟨b, rfl, hB', hr⟩
  · exact .inl h
  · exact .inr ⟨b, rfl, hB', hr.of_block (hk _ (by omega) hr.lt)⟩

theorem leave_all (C : Cx w B lo h g ref po an nn ai ni last nd n z3 U V e) (hp0 : 0 ≤ po) (hpt : po + nn ≤ 200) (hni : ni ≤ 65536) (hz : z3.length = ni) (hn : n ≤ 65536) (hhi : po + nn + ni ≤ nd) :
    Calls Tryf.prog 14 #[.pointer (some ⟨h + 9, 0, none⟩)] w fun en w' => en = .returned (.int .i64 (rv ref (po + nn))) ∧ Done w' lo h g nd (mm ref n) (uu ref (createv 38 (po + nn) 0 0) U) (uu ref last V) (fun i => stamp (po + nn) (po + nn + ni) ((mm ref n : Nat) : Int) (e i) i) ∧ w.heap.size ≤ w'.heap.size ∧ (∀ Z, Z ≤ g → Below Z w w') ∧ ∀ k, h + 10 ≤ k → k < w.heap.size → w'.heap[k]? = w.heap[k]? := by
  have gh := C.gh
  have lh := C.lh
  have hl := C.F.fc.lt
  have CC := Lib.hid C
  obtain ⟨cc, cl, hs, h0, h1, r0, r1⟩ := C.T
  have hX := C.hX
  clear C
  go_enter Tryf.func14, Tryf.ntmps14
  go_wp2_with fail
  cases ref with
  | false =>
    refine (leaveNo_any h po an nn nn ai ni last g nd nd 0 z3 e (n : Int) B w CC.out.F hp0 (by omega) hpt hni CC.out.X hz (hs.cell (i := 2) (by omega)) (by omega) (by omega) CC.out.I (by omega) hhi).mono ?_
    rintro en w' ⟨rfl, F, J, ⟨s1, s2, s3, s4, s5⟩, h5⟩
    have k : ∀ q, q < w.heap.size → q ≠ h + 5 → q ≠ h + 9 → (q ≤ g ∨ g + nd < q) → w'.heap[q]? = w.heap[q]? := fun q a b c d => s5 q a b c (by simp) (by simp) d
    have R := Lib.hid (show Done w' lo h g nd n U V (fun i => stamp (po + nn) (po + nn + ni) (n : Int) (e i) i) ∧ w.heap.size ≤ w'.heap.size ∧ (∀ Z, Z ≤ g → Below Z w w') ∧ ∀ k, h + 10 ≤ k → k < w.heap.size → w'.heap[k]? = w.heap[k]? from
      ⟨⟨F.fc.cell (i := 1) (by omega), ⟨cc, cl, n, n, hs.of_block h5, own_hold h0 (fun q a b ⟨x, hx, hq⟩ => k q b (by have := (r0 x hx).2; omega) (by have := (r0 x hx).2; omega) (.inr (by omega))), own_hold h1 (fun q a b ⟨x, hx, hq⟩ => k q b (by have := (r1 x hx).2; omega) (by have := (r1 x hx).2; omega) (.inr (by omega)))⟩, J⟩, s1, fun Z hZ => ⟨s2, s3, s4, s1, fun q hq => k q (by omega) (by omega) (by omega) (.inl (by omega))⟩, fun q a b => k q b (by omega) (by omega) (.inr (by omega))⟩)
    clear F J s1 s2 s3 s4 s5 h5 k h0 h1 hs CC
    go_wp2_with fail
    go_ret
    exact ⟨rfl, R.out⟩
  | true =>
    refine (leaveYes_any h po an nn nn ai ni last g nd nd 0 z3 e B w lo n cc cl n n _ _ CC.out.F hp0 (by omega) hpt hni CC.out.X hz (fun x hx => by have := hX x hx; omega) hs h0 h1 hn (by omega) CC.out.I (by omega) hhi).mono ?_
    rintro en w' ⟨rfl, F, J, ⟨s1, s2, s3, s4, s5⟩, x7, y7, p7, q7, T7, O7, L7⟩
    rw [show putAt (U.map (Value.int .u32)) n n (.int .u32 (createv 38 (po + nn) 0 0)) = (U ++ [createv 38 (po + nn) 0 0]).map (Value.int .u32) by simp [putAt]] at O7
    rw [show putAt (V.map (Value.int .i64)) n n (.int .i64 last) = (V ++ [last]).map (Value.int .i64) by simp [putAt]] at L7
    have R := Lib.hid (show Done w' lo h g nd (n + 1) (U ++ [createv 38 (po + nn) 0 0]) (V ++ [last]) (fun i => stamp (po + nn) (po + nn + ni) (((n + 1 : Nat)) : Int) (e i) i) ∧ w.heap.size ≤ w'.heap.size ∧ (∀ Z, Z ≤ g → Below Z w w') ∧ ∀ k, h + 10 ≤ k → k < w.heap.size → w'.heap[k]? = w.heap[k]? from
      ⟨⟨F.fc.cell (i := 1) (by omega), ⟨_, _, _, _, T7, O7, L7⟩, J⟩, s1, fun Z hZ => ⟨s2, s3, s4, s1, fun q hq => s5 q (by omega) (by omega) (by omega) (ne_rng r0 (.inl (by omega))) (ne_rng r1 (.inl (by omega))) (.inl (by omega))⟩, fun q a b => s5 q b (by omega) (by omega) (ne_rng r0 (.inr (by omega))) (ne_rng r1 (.inr (by omega))) (.inr (by omega))⟩)
    clear F J s1 s2 s3 s4 s5 T7 O7 L7 h0 h1 hs CC
    go_wp2_with fail
    go_ret
    exact ⟨rfl, R.out⟩

theorem close_all (C : Cx w B lo h g ref po an nn ai ni last nd n z3 U V e) (hp0 : 0 ≤ po) (hpt : po + nn ≤ 200) (hn : n ≤ 65536) :
    Calls Tryf.prog 15 #[.pointer (some ⟨h + 9, 0, none⟩)] w fun en w' => en = .returned (.int .i64 (rv ref (po + nn))) ∧ Mid w' B lo h g ref po an nn ai ni last nd (mm ref n) z3 (uu ref (createv 38 (po + nn) 0 0) U) (uu ref last V) e ∧ w.heap.size ≤ w'.heap.size ∧ (∀ Z, Z ≤ lo → Below Z w w') ∧
      ∀ lo' h' g' nd' m' U' V' e', (ref = true → n < m') → h' + 10 ≤ lo → g' + nd' < h' → Done w lo' h' g' nd' m' U' V' e' → Done w' lo' h' g' nd' m' U' V' e' := by
  have gh := C.gh
  have lh := C.lh
  have hl := C.F.fc.lt
  have CC := Lib.hid C
  obtain ⟨cc, cl, hs, h0, h1, r0, r1⟩ := C.T
  have hX := C.hX
  clear C
  cases ref with
  | false =>
    refine (closeNo_any w CC.out.F).mono ?_
    rintro en w' ⟨rfl, rfl⟩
    exact ⟨rfl, ⟨CC.out.F, ⟨cc, cl, n, n, hs, h0, h1⟩, CC.out.X, CC.out.I, gh, lh⟩, Nat.le_refl _, fun Z _ => Below.refl _ _, fun _ _ _ _ _ _ _ _ _ _ _ D => D⟩
  | true =>
    refine (closeYes_any lo n n cc cl n n _ _ w CC.out.F hp0 (by omega) (by omega) hs h0 h1 (by omega) (Nat.le_refl _) (by omega)).mono ?_
    rintro en w' ⟨rfl, -, x7, y7, p7, q7, T7, O7, L7, K⟩
    rw [nAt_self] at T7 O7 L7
    rw [show putAt (U.map (Value.int .u32)) n n (.int .u32 (createv 38 (po + nn) 0 0)) = (U ++ [createv 38 (po + nn) 0 0]).map (Value.int .u32) by simp [putAt]] at O7
    rw [show putAt (V.map (Value.int .i64)) n n (.int .i64 last) = (V ++ [last]).map (Value.int .i64) by simp [putAt]] at L7
    refine ⟨rfl, ⟨CC.out.F.kept h0 h1 K, ⟨_, _, _, _, T7, O7, L7⟩, got_kept CC.out.X h0 h1 K (fun x hx => by have := hX x hx; omega), CC.out.I.kept h0 h1 K (by omega), gh, lh⟩, K.size, fun Z hZ => ⟨K.os, K.tape, K.output, K.size, fun q hq => K.block q (by omega) (by omega) (ne_rng r0 (.inl (by omega))) (ne_rng r1 (.inl (by omega)))⟩, ?_⟩
    intro lo' h' g' nd' m' U' V' e' hm hh hg D
    have hc9 := cell_block_lt D.c1
    have kb : ∀ q, q < lo → q < w.heap.size → w'.heap[q]? = w.heap[q]? := fun q a b => K.block q b (by omega) (ne_rng r0 (.inl (by omega))) (ne_rng r1 (.inl (by omega)))
    have hmm := hm rfl
    refine ⟨(World.cell?_of_block (a := ⟨h' + 9, 1, none⟩) (kb (h' + 9) (by omega) hc9)).trans D.c1, D.S.hold (kb (h' + 5) (by omega) (by have : h' + 9 < w.heap.size := hc9; omega)) ?_, D.I.hold fun k a b c => kb k (by omega) c⟩
    intro x p T xs ho hT hx
    refine K.block x hx (own_ne' hs ho (by rcases hT with rfl | rfl <;> decide)) ?_ ?_
    · rcases hT with rfl | rfl
      · exact own_diff ho h0 (.inr ⟨rfl, hmm⟩)
      · exact own_diff ho h0 (.inl (by decide))
    · rcases hT with rfl | rfl
      · exact own_diff ho h1 (.inl (by decide))
      · exact own_diff ho h1 (.inr ⟨rfl, hmm⟩)

theorem end_all (M : Mid w B lo h g ref po an nn ai ni last nd n z3 U V e) (hp0 : 0 ≤ po) (hpt : po + nn ≤ 200) (hni : ni ≤ 65536) (hz : z3.length = ni) (hn : n ≤ 65537) (hhi : po + nn + ni ≤ nd) :
    Calls Tryf.prog 16 #[.pointer (some ⟨h + 9, 0, none⟩)] w fun en w' => en = .returned (.tuple #[]) ∧ Done w' lo h g nd n U V (fun i => stamp (po + nn) (po + nn + ni) (n : Int) (e i) i) ∧ w.heap.size ≤ w'.heap.size ∧ (∀ Z, Z ≤ g → Below Z w w') ∧
      ∀ lo' h' g' nd' m' U' V' e', h' + 10 ≤ g → g' + nd' < h' → Done w lo' h' g' nd' m' U' V' e' → Done w' lo' h' g' nd' m' U' V' e' := by
  have gh := M.gh
  have lh := M.lh
  have hl := M.F.fc.lt
  have MM := M
  obtain ⟨cc, cl, p, q, hs, h0, h1⟩ := M.S
  refine (zzEnd_any h ref po an nn nn ai ni ni last g nd nd 0 z3 e (n : Int) w M.F hp0 (by omega) (by omega) hni (got_row M.X hz (by omega)) (hs.cell (i := 2) (by omega)) (by omega) (by omega) M.I (by omega) hhi).mono ?_
  rintro en w' ⟨rfl, J, s1, s2, s3, s4, s5⟩
  have f1 : w.cell? ⟨h + 9, 1, none⟩ = some (.pointer (some ⟨h + 5, 0, none⟩)) := M.F.fc.cell (i := 1) (by omega)
  refine ⟨rfl, ⟨(World.cell?_of_block (a := ⟨h + 9, 1, none⟩) (s5 (h + 9) hl (.inr (by omega)))).trans f1, M.S.hold (s5 (h + 5) hs.lt (.inr (by omega))) fun x p T xs ho hT hx => s5 x hx (own_out M.I ho (by rcases hT with rfl | rfl <;> decide)), J⟩, s1, fun Z hZ => ⟨s2, s3, s4, s1, fun q hq => s5 q (by omega) (.inl (by omega))⟩, ?_⟩
  intro lo' h' g' nd' m' U' V' e' hh hg D
  have hc9 := cell_block_lt D.c1
  exact ⟨(World.cell?_of_block (a := ⟨h' + 9, 1, none⟩) (s5 (h' + 9) hc9 (.inl (by omega)))).trans D.c1, D.S.hold (s5 (h' + 5) (by have : h' + 9 < w.heap.size := hc9; omega) (.inl (by omega))) (fun x p T xs ho hT hx => s5 x hx (own_out M.I ho (by rcases hT with rfl | rfl <;> decide))), D.I.hold fun k a b c => s5 k c (.inl (by omega))⟩

theorem Done.at (D : Done w lo h g nd n U V e) {i : Nat} (hi : i < n) : ∃ X p Y q, w.cell? ⟨h + 5, 0, none⟩ = some (.slice (some ⟨X, 0, none⟩) n p) ∧ w.cell? ⟨X, i, none⟩ = some (.int .u32 (U.getD i 0)) ∧ w.cell? ⟨h + 5, 1, none⟩ = some (.slice (some ⟨Y, 0, none⟩) n q) ∧ w.cell? ⟨Y, i, none⟩ = some (.int .i64 (V.getD i 0)) := by
  obtain ⟨cc, cl, p, q, hs, h0, h1⟩ := D.S
  obtain ⟨X, p', e0, _, _⟩ := own_form h0 (by omega)
  obtain ⟨Y, q', e1, _, _⟩ := own_form h1 (by omega)
  cases e0
  cases e1
  exact ⟨X, p, Y, q, hs.cell (i := 0) (by omega), row_cell (row_of_own (d := 0) h0) hi, hs.cell (i := 1) (by omega), row_cell (row_of_own (d := 0) h1) hi⟩
theorem Done.pc (D : Done w lo h g nd n U V e) : w.cell? ⟨h + 5, 2, none⟩ = some (.int .i64 n) := by
  obtain ⟨cc, cl, p, q, hs, h0, h1⟩ := D.S
  exact hs.cell (i := 2) (by omega)
theorem Done.below {w' : World} (D : Done w lo h g nd n U V e) (b : Below w.heap.size w w') : Done w' lo h g nd n U V e :=
  ⟨(b.cell (cell_block_lt D.c1)).trans D.c1, D.S.hold (b.block _ (by have : h + 9 < w.heap.size := cell_block_lt D.c1; omega)) fun x _ _ _ _ _ hx => b.block x hx, D.I.hold fun k _ _ c => b.block k c⟩
end
end Go.Proofs.YticnfohoddlolaaFmt
