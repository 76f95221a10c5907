/- The walk of FnLeaveBlockAgreesWithCloseThenEndScope: the Go text returns true and writes nothing that was there. -/
import Derived.Test.YticnfohoddlolaaFmtByLa
import Derived.Test.YticnfohoddlolaaFmtLc
import Derived.Test.YticnfohoddlolaaFmtPuts
import Derived.Test.YticnfohoddlolaaFmtCloneU32
import Derived.Test.YticnfohoddlolaaFmtCloneInt
import Derived.Test.YticnfohoddlolaaFmtCloneStr
namespace Go.Proofs.YticnfohoddlolaaFmt.fnLeaveBlockAgreesWithCloseThenEndScope
open Go.ChangeShapes Go.WideShapes Go.ChangeAt Go.RowKit Go.Proofs.YticnfohoddlolaaFmt.inv
set_option linter.unusedVariables false
set_option maxRecDepth 100000

/-- The parts of one context: from the world with lo blocks on. -/
def RPost (B lo : Nat) (ref : Bool) (po : Int) (nn ni : Nat) (last : Int) (nd n g : Nat) (z3 : List ByteArray) (z5 : List Int) (e : Nat → Int) (v : Value) (w : World) : Prop :=
  ∃ h d2 d3, v = .pointer (some ⟨h + 9, 0, none⟩) ∧ Cx w B lo h g ref po d2 nn d3 ni last nd n z3 z5 (List.replicate n 0) e ∧ h + 10 ≤ w.heap.size
theorem RPost.stays {B lo : Nat} {ref : Bool} {po : Int} {nn ni : Nat} {last : Int} {nd n g : Nat} {z3 : List ByteArray} {z5 : List Int} {e : Nat → Int} {v : Value} {w w' : World} (h : RPost B lo ref po nn ni last nd n g z3 z5 e v w) (b : Below w.heap.size w w') : RPost B lo ref po nn ni last nd n g z3 z5 e v w' := by
  obtain ⟨h, d2, d3, e1, C, hl⟩ := h
  exact ⟨h, d2, d3, e1, C.hold 0 (Nat.zero_le _) (Nat.zero_le _) (fun k _ hk => b.block k hk), Nat.le_trans hl b.size⟩
/-- A fresh slice of n cells from lo on. -/
def GPost (lo : Nat) (T : TypeId) (n : Nat) (f : Nat → Value) (v : Value) (w : World) : Prop := ∃ c, v = .slice c n n ∧ Got lo w c T n f ∧ Rng c lo w.heap.size
theorem GPost.stays {lo : Nat} {T : TypeId} {n : Nat} {f : Nat → Value} {v : Value} {w w' : World} (h : GPost lo T n f v w) (b : Below w.heap.size w w') : GPost lo T n f v w' := by
  obtain ⟨c, e, h1, h2⟩ := h
  exact ⟨c, e, got_below h1 b, fun x hx => ⟨(h2 x hx).1, Nat.lt_of_lt_of_le (h2 x hx).2 b.size⟩⟩
theorem GPost.of {lo : Nat} {T : TypeId} {n : Nat} {f : Nat → Value} {w w' : World} {e : Ending} (hlo : lo ≤ w.heap.size) (h : Copied w T n f e w') : ∃ v, e = .returned v ∧ GPost lo T n f v w' ∧ Below w.heap.size w w' := by
  obtain ⟨c, rfl, h1, h2, h3⟩ := h.rng
  refine ⟨_, rfl, ⟨c, rfl, ?_, fun x hx => ⟨by have := (h2 x hx).1; omega, (h2 x hx).2⟩⟩, h3⟩
  rcases h1 with h | ⟨b, rfl, hB, hr⟩
  · exact .inl h
  · exact .inr ⟨b, rfl, by omega, hr⟩
/-- newFC, told with its parts. -/
theorem made_all (B lo : Nat) (ref : Bool) (po : Int) (d2 d3 c m : Option Addr) (nn ni : Nat) (last : Int) (nd n g : Nat) (z3 : List ByteArray) (z5 : List Int) (e : Nat → Int) (w : World) (hp0 : 0 ≤ po) (hp1 : po ≤ 1073741824) (h1 : nn ≤ 65536) (h2 : ni ≤ 65536) (h3 : n ≤ 65536)
    (X3 : Got B w d3 9 ni (fun i => .string (z3.getD i ByteArray.empty))) (R3 : ∀ x, d3 = some x → x.block < w.heap.size) (X5 : Got lo w c 36 n (fun i => .int .u32 (z5.getD i 0))) (R5 : Rng c lo w.heap.size) (l5 : z5.length = n)
    (X0 : Got lo w m 3 n (fun i => .int .i64 ((List.replicate n (0 : Int)).getD i 0))) (R0 : Rng m lo w.heap.size) (I : Infos w g nd e) (hg : g + nd < lo) (hlo : lo ≤ w.heap.size) :
    Calls Tryf.prog 13 #[.bool ref, .int .i64 po, .slice d2 nn nn, .slice d3 ni ni, .int .i64 last, .slice c n n, .slice m n n, .slice (some ⟨g, 0, none⟩) nd nd, .int .i64 0] w fun en w' => ∃ v, en = .returned v ∧ RPost B lo ref po nn ni last nd n g z3 z5 e v w' ∧ Below w.heap.size w w' := by
  refine (newFC_any ref po d2 d3 c m (some ⟨g, 0, none⟩) nn ni n n nd nn ni n n nd last 0 w hp0 hp1 h1 h2 h3).mono ?_
  rintro en w' ⟨rfl, F, T, sz, b⟩
  exact ⟨_, rfl, ⟨w.heap.size, d2, d3, rfl, ⟨F, ⟨c, m, T, own_of_got (got_below X5 b) l5 (by omega) (Nat.le_refl _), own_of_got (got_below X0 b) (by simp) (by omega) (Nat.le_refl _), R5, R0⟩, got_below X3 b, R3, I.hold (fun k _ _ hk => b.block k hk), hg, hlo⟩, by omega⟩, b⟩

def aPost (B lo : Nat) (ref : Bool) (po : Int) (d2 d3 d5 : Option Addr) (nn ni : Nat) (last : Int) (nd n g : Nat) (z3 : List ByteArray) (z5 : List Int) (e : Nat → Int) : Nat → Value → World → Prop
  | 0, v, _ => v = .bool ref
  | 1, v, _ => v = .int .i64 po
  | 2, v, _ => v = .slice d2 nn nn
  | 3, v, _ => v = .slice d3 ni ni
  | 4, v, _ => v = .int .i64 last
  | 5, v, _ => v = .slice d5 n n
  | 6, v, w => GPost lo 36 n (fun i => .int .u32 (z5.getD i 0)) v w
  | 7, v, _ => v = .int .i64 n
  | 8, v, w => GPost lo 3 n (fun i => .int .i64 ((List.replicate n (0 : Int)).getD i 0)) v w
  | 9, v, _ => v = .slice (some ⟨g, 0, none⟩) nd nd
  | _, v, w => RPost B lo ref po nn ni last nd n g z3 z5 e v w
theorem aPost_stays (B lo : Nat) (ref : Bool) (po : Int) (d2 d3 d5 : Option Addr) (nn ni : Nat) (last : Int) (nd n g : Nat) (z3 : List ByteArray) (z5 : List Int) (e : Nat → Int) : ∀ i v w w', aPost B lo ref po d2 d3 d5 nn ni last nd n g z3 z5 e i v w → Below w.heap.size w w' → aPost B lo ref po d2 d3 d5 nn ni last nd n g z3 z5 e i v w' := by
  intro i v w w' h b
  unfold aPost at h ⊢
  split <;> simp only at h ⊢
  all_goals first | exact h | exact GPost.stays h b | exact RPost.stays h b

def bPost (lo : Nat) (ref : Bool) (po : Int) (d2 d3 d5 : Option Addr) (nn ni : Nat) (last : Int) (nd n g : Nat) (z2 z3 : List ByteArray) (z5 : List Int) (e : Nat → Int) : Nat → Value → World → Prop
  | 0, v, _ => v = .bool ref
  | 1, v, _ => v = .int .i64 po
  | 2, v, _ => v = .slice d2 nn nn
  | 3, v, w => GPost lo 9 nn (fun i => .string (z2.getD i ByteArray.empty)) v w
  | 4, v, _ => v = .slice d3 ni ni
  | 5, v, w => GPost lo 9 ni (fun i => .string (z3.getD i ByteArray.empty)) v w
  | 6, v, _ => v = .int .i64 last
  | 7, v, _ => v = .slice d5 n n
  | 8, v, w => GPost lo 36 n (fun i => .int .u32 (z5.getD i 0)) v w
  | 9, v, _ => v = .int .i64 n
  | 10, v, w => GPost lo 3 n (fun i => .int .i64 ((List.replicate n (0 : Int)).getD i 0)) v w
  | 11, v, _ => v = .slice (some ⟨g, 0, none⟩) nd nd
  | _, v, w => RPost lo lo ref po nn ni last nd n g z3 z5 e v w
theorem bPost_stays (lo : Nat) (ref : Bool) (po : Int) (d2 d3 d5 : Option Addr) (nn ni : Nat) (last : Int) (nd n g : Nat) (z2 z3 : List ByteArray) (z5 : List Int) (e : Nat → Int) : ∀ i v w w', bPost lo ref po d2 d3 d5 nn ni last nd n g z2 z3 z5 e i v w → Below w.heap.size w w' → bPost lo ref po d2 d3 d5 nn ni last nd n g z2 z3 z5 e i v w' := by
  intro i v w w' h b
  unfold bPost at h ⊢
  split <;> simp only at h ⊢
  all_goals first | exact h | exact GPost.stays h b | exact RPost.stays h b

theorem codePC_c (h : Nat) (v : Value) (w : World) (c1 : w.cell? ⟨h + 9, 1, none⟩ = some (.pointer (some ⟨h + 5, 0, none⟩))) (hc : w.cell? ⟨h + 5, 2, none⟩ = some v) :
    Calls Tryf.prog 17 #[.pointer (some ⟨h + 9, 0, none⟩)] w fun e w' => e = .returned v ∧ w = w' := by
  go_enter Tryf.func17, Tryf.ntmps17
  go_wp2
  go_ret
  exact ⟨rfl, rfl⟩

set_option maxHeartbeats 8000000 in
theorem walk (a0 : Bool) (a1 : Int) (a2 : Option Addr) (len2 cap2 : Nat) (z2 : List ByteArray) (a3 : Option Addr) (len3 cap3 : Nat) (z3 : List ByteArray) (a4 : Int) (a5 : Option Addr) (len5 cap5 : Nat) (z5 : List Int) (a6 : Option Addr) (len6 cap6 : Nat) (z6 : List Int) (w : World) (w1 : (Lit.int .i64 a1).wf = true) (r2 : IsRow .string ByteArray.empty w a2 len2 cap2 z2) (w2 : ∀ z ∈ z2, z.size ≤ maxLen) (r3 : IsRow .string ByteArray.empty w a3 len3 cap3 z3) (w3 : ∀ z ∈ z3, z.size ≤ maxLen) (w4 : (Lit.int .i64 a4).wf = true) (r5 : IsRow (.int .u32) 0 w a5 len5 cap5 z5) (w5 : ∀ z ∈ z5, (Lit.int .u32 z).wf = true) (r6 : IsRow (.int .i64) 0 w a6 len6 cap6 z6) (w6 : ∀ z ∈ z6, (Lit.int .i64 z).wf = true) :
    Calls Tryf.prog 3 #[.bool a0, .int .i64 a1, .slice a2 len2 cap2, .slice a3 len3 cap3, .int .i64 a4, .slice a5 len5 cap5, .slice a6 len6 cap6] w fun e w' => e = .returned (.bool true) ∧ Below w.heap.size w w' := by
  have hv1 := i64_bd w1
  have l2 := Lib.hid r2.1
  have l3 := Lib.hid r3.1
  have l5 := Lib.hid r5.1
  have l6 := Lib.hid r6.1
  have m5 := r5.2.1
  have m5' := r5.2.2.1
  have m6 := r6.2.1
  have m6' := r6.2.2.1
  unfold maxLen at m5' m6'
  go_enter Tryf.func3, Tryf.ntmps3
  go_wp2_with fail
  refine (byFnLeaveBlockAgreesWithCloseThenEndScope_any w a0 a1 a2 len2 cap2 z2 r2 w2 a3 len3 cap3 z3 r3 w3 a4 a5 len5 cap5 (by omega) a6 len6 cap6 (by omega)).mono ?_
  rintro e v1 ⟨b, rfl, hb, b1⟩
  have s1 := b1.size
  cases b with
  | false =>
    go_wp2
    go_ret
    exact ⟨rfl, b1⟩
  | true =>
  replace hb := hb rfl
  replace r2 := row_below r2 b1
  replace r3 := row_below r3 b1
  replace r5 := row_below r5 b1
  replace r6 := row_below r6 b1
  have B := b1
  clear b1
  by_cases g0 : (65536 : Int) < (len2 : Int)
  · go_wp2
    go_ret
    exact ⟨rfl, B⟩
  by_cases g1 : (65536 : Int) < (len3 : Int)
  · go_wp2
    go_ret
    exact ⟨rfl, B⟩
  by_cases g2 : (65536 : Int) < (len5 : Int)
  · go_wp2
    go_ret
    exact ⟨rfl, B⟩
  by_cases g3 : (65536 : Int) < (len6 : Int)
  · go_wp2
    go_ret
    exact ⟨rfl, B⟩
  go_wp2_with fail
  refine (strBytes_any a2 len2 cap2 z2 _ r2 (by omega)).mono ?_
  rintro e v2 ⟨rfl, b2⟩
  have s_v2 := b2.size
  replace r2 := row_below r2 b2
  replace r3 := row_below r3 b2
  replace r5 := row_below r5 b2
  replace r6 := row_below r6 b2
  replace B := bel_trans B b2 B.size
  clear b2
  go_wp2_with fail
  refine (strBytes_any a3 len3 cap3 z3 _ r3 (by omega)).mono ?_
  rintro e v3 ⟨rfl, b2⟩
  have s_v3 := b2.size
  replace r2 := row_below r2 b2
  replace r3 := row_below r3 b2
  replace r5 := row_below r5 b2
  replace r6 := row_below r6 b2
  replace B := bel_trans B b2 B.size
  clear b2
  generalize tot z2 len2 = t1 at *
  generalize tot z3 len3 = t2 at *
  by_cases f0 : (1048576 : Int) < ((16 * len2 + t1 : Nat) : Int) + ((16 * len3 + t2 : Nat) : Int) + 16 * (len5 : Int) + 8 * (len6 : Int)
  · go_wp2
    go_ret
    exact ⟨rfl, B⟩
  by_cases f1 : a1 < 0
  · go_wp2
    go_ret
    exact ⟨rfl, B⟩
  by_cases f2 : 200 < a1
  · go_wp2
    go_ret
    exact ⟨rfl, B⟩
  by_cases f3 : 200 < a1 + (len2 : Int)
  · go_wp2
    go_ret
    exact ⟨rfl, B⟩
  by_cases f4 : (len6 : Int) < a1 + (len2 : Int) + (len3 : Int)
  · go_wp2
    go_ret
    exact ⟨rfl, B⟩
  go_wp2_with fail
  refine (cloneStr_any _ _ _ z2 _ r2 (by omega)).mono ?_
  rintro e v4 C
  obtain ⟨d2, rfl, x_d2, y_d2, bb⟩ := C.rng
  have s_v4 := bb.size
  replace r3 := row_below r3 bb
  replace r5 := row_below r5 bb
  replace r6 := row_below r6 bb
  replace B := bel_trans B bb B.size
  clear C bb
  go_wp2_with fail
  refine (cloneStr_any _ _ _ z3 _ r3 (by omega)).mono ?_
  rintro e v5 C
  obtain ⟨d3, rfl, x_d3, y_d3, bb⟩ := C.rng
  have s_v5 := bb.size
  replace r5 := row_below r5 bb
  replace r6 := row_below r6 bb
  replace x_d2 := got_below x_d2 bb
  replace B := bel_trans B bb B.size
  clear C bb
  go_wp2_with fail
  refine (cloneU32_any _ _ _ z5 _ r5 (by omega)).mono ?_
  rintro e v6 C
  obtain ⟨d5, rfl, x_d5, y_d5, bb⟩ := C.rng
  have s_v6 := bb.size
  replace r6 := row_below r6 bb
  replace x_d2 := got_below x_d2 bb
  replace x_d3 := got_below x_d3 bb
  replace B := bel_trans B bb B.size
  clear C bb
  go_wp2_with fail
  refine (cloneInt_any _ _ _ z6 _ r6 (by omega)).mono ?_
  rintro e v7 C
  obtain ⟨d6, rfl, x_d6, y_d6, bb⟩ := C.rng
  have s_v7 := bb.size
  replace x_d2 := got_below x_d2 bb
  replace x_d3 := got_below x_d3 bb
  replace x_d5 := got_below x_d5 bb
  replace B := bel_trans B bb B.size
  clear C bb
  clear r2 r3 r5 r6
  go_wp2_with fail
  refine (makeLocals_any d6 len6 len6 z6 _ (got_row x_d6 l6.out (by omega)) (by omega)).mono ?_
  rintro e v8 ⟨g, rfl, hg, GR, GF, bb⟩
  have s8 := bb.size
  have gend : g + len6 < v8.heap.size := by
    by_cases e0 : len6 = 0
    · have := GR.lt; omega
    · have := (GF (len6 - 1) (by omega)).lt; omega
  have X2 := Lib.hid (got_below x_d2 bb)
  have X3 := Lib.hid (got_below x_d3 bb)
  have X5 := Lib.hid (got_below x_d5 bb)
  have X6 := Lib.hid (got_below x_d6 bb)
  replace B := bel_trans B bb B.size
  have I := Lib.hid (show Infos v8 g len6 (fun i => z6.getD i 0) from ⟨GR, GF⟩)
  clear bb GR GF x_d2 x_d3 x_d5 x_d6
  go_wp2_with fail
  have hlo : g + len6 < v8.heap.size := gend
  have hd3 : ∀ x, d3 = some x → x.block < v8.heap.size := fun x hx => by have := (y_d3 x hx).2; omega
  have hmk := run_make_row' (P := Tryf.prog) 24 3 (.int .i64 0) 8 Tryf.underlying24 infoI rfl .i64 .i64 len5 (by omega) (by omega)
  refine region_inv [103, 104, 105, 106, 107, 108, 109, 110, 111, 112, 113, 18] (aPost v4.heap.size v8.heap.size a0 a1 d2 d3 d5 len2 len3 a4 len6 len5 g z3 z5 (fun i => z6.getD i 0)) _ v8 (by kernel_rfl) rfl ?_ (by decide) (by intro d hd; simp at hd; simp; omega) ?_ (aPost_stays _ _ _ _ _ _ _ _ _ _ _ _ _ _ _ _) ?_ ?_
  · intro i o ho
    match i, ho with
    | 0, rfl => rfl
    | 1, rfl => rfl
    | 2, rfl => rfl
    | 3, rfl => rfl
    | 4, rfl => rfl
    | 5, rfl => rfl
    | 6, rfl => rfl
    | 7, rfl => rfl
    | 8, rfl => rfl
    | 9, rfl => rfl
    | 10, rfl => rfl
    | 11, rfl => rfl
  · intro i o ho
    match i, ho with
    | 0, rfl => decide
    | 1, rfl => decide
    | 2, rfl => decide
    | 3, rfl => decide
    | 4, rfl => decide
    | 5, rfl => decide
    | 6, rfl => decide
    | 7, rfl => decide
    | 8, rfl => decide
    | 9, rfl => decide
    | 10, rfl => decide
    | 11, rfl => decide
  · intro i o ho a w1 K hb' hoff hin hK
    have hb : Below v8.heap.size v8 w1 := (Below.refl v8.heap.size v8).drew.trans hb'
    have hsz := hb.size
    match i, ho with
    | 0, rfl => exact wpOp_plain rfl rfl (wp_value (v := sl a 0) rfl (hK _ _ (hoff 0 (by decide)) (Below.refl _ _)))
    | 1, rfl => exact wpOp_plain rfl rfl (wp_value (v := sl a 1) rfl (hK _ _ (hoff 1 (by decide)) (Below.refl _ _)))
    | 2, rfl => exact wpOp_plain rfl rfl (wp_value (v := sl a 2) rfl (hK _ _ (hoff 2 (by decide)) (Below.refl _ _)))
    | 3, rfl => exact wpOp_plain rfl rfl (wp_value (v := sl a 3) rfl (hK _ _ (hoff 3 (by decide)) (Below.refl _ _)))
    | 4, rfl => exact wpOp_plain rfl rfl (wp_value (v := sl a 4) rfl (hK _ _ (hoff 4 (by decide)) (Below.refl _ _)))
    | 5, rfl => exact wpOp_plain rfl rfl (wp_value (v := sl a 5) rfl (hK _ _ (hoff 5 (by decide)) (Below.refl _ _)))
    | 6, rfl =>
      have q0 : a.eval (.tmp 108) = .slice d5 len5 len5 := hin ⟨5, .data⟩ (by simp) rfl
      refine wpOp_plain rfl rfl (wp_call (vs := #[.slice d5 len5 len5]) (by rw [← q0]; kernel_rfl) (cloneU32_any _ _ _ z5 w1 (got_row (got_below X5.out hb) l5.out (by omega)) (by omega)) ?_)
      intro en w2 C
      obtain ⟨v, rfl, h1, h2⟩ := GPost.of (lo := v8.heap.size) hsz C
      exact ⟨v, rfl, hK _ _ h1 h2⟩
    | 7, rfl => exact wpOp_plain rfl rfl (wp_value (v := sl a 16) rfl (hK _ _ (hoff 16 (by decide)) (Below.refl _ _)))
    | 8, rfl =>
      have q0 : a.eval (.tmp 110) = .int .i64 len5 := hin ⟨7, .data⟩ (by simp) rfl
      refine wpOp_plain rfl rfl (wp_value (ex_make (by rw [q0]; exact hmk w1)) (hK _ _ ⟨_, rfl, ?_, ?_⟩ ((Below.refl _ _).alloc (Nat.le_refl _) _)))
      · rcases made_got w1 len5 with h | ⟨b, e, hB, hr⟩
        · exact .inl h
        · exact .inr ⟨b, e, by omega, hr⟩
      · rintro x ⟨⟩
        simp
        omega
    | 9, rfl => exact wpOp_plain rfl rfl (wp_value (v := sl a 17) rfl (hK _ _ (hoff 17 (by decide)) (Below.refl _ _)))
    | 10, rfl =>
      have q0 : a.eval (.tmp 103) = .bool a0 := hin ⟨0, .data⟩ (by simp) rfl
      have q1 : a.eval (.tmp 104) = .int .i64 a1 := hin ⟨1, .data⟩ (by simp) rfl
      have q2 : a.eval (.tmp 105) = .slice d2 len2 len2 := hin ⟨2, .data⟩ (by simp) rfl
      have q3 : a.eval (.tmp 106) = .slice d3 len3 len3 := hin ⟨3, .data⟩ (by simp) rfl
      have q4 : a.eval (.tmp 107) = .int .i64 a4 := hin ⟨4, .data⟩ (by simp) rfl
      obtain ⟨c, q6, G6, R6⟩ : GPost v8.heap.size 36 len5 (fun i => .int .u32 (z5.getD i 0)) (a.eval (.tmp 109)) w1 := hin ⟨6, .data⟩ (by simp) rfl
      obtain ⟨m, q8, G8, R8⟩ : GPost v8.heap.size 3 len5 (fun i => .int .i64 ((List.replicate len5 (0 : Int)).getD i 0)) (a.eval (.tmp 111)) w1 := hin ⟨8, .data⟩ (by simp) rfl
      have q9 : a.eval (.tmp 112) = .slice (some ⟨g, 0, none⟩) len6 len6 := hin ⟨9, .data⟩ (by simp) rfl
      refine wpOp_plain rfl rfl (wp_call (vs := #[.bool a0, .int .i64 a1, .slice d2 len2 len2, .slice d3 len3 len3, .int .i64 a4, .slice c len5 len5, .slice m len5 len5, .slice (some ⟨g, 0, none⟩) len6 len6, .int .i64 0]) (by rw [← q0, ← q1, ← q2, ← q3, ← q4, ← q6, ← q8, ← q9]; kernel_rfl) (made_all v4.heap.size v8.heap.size a0 a1 d2 d3 c m len2 len3 a4 len6 len5 g z3 z5 (fun i => z6.getD i 0) w1 (by omega) (by omega) (by omega) (by omega) (by omega) (got_below X3.out hb) (fun x hx => by have := hd3 x hx; omega) G6 R6 l5.out G8 R8 (I.out.hold fun k _ _ hk => hb.block k hk) hlo hsz) ?_)
      rintro en w2 ⟨v, rfl, h1, h2⟩
      exact ⟨v, rfl, hK _ _ h1 h2⟩
    | 11, rfl => exact wpOp_plain rfl rfl (wp_value (v := sl a 113) rfl (hK _ _ (hin ⟨10, .data⟩ (by simp) rfl) (Below.refl _ _)))
  · intro v v9 hp hb
    obtain ⟨h, e2, e3, q11, C, hh⟩ : RPost v4.heap.size v8.heap.size a0 a1 len2 len3 a4 len6 len5 g z3 z5 (fun i => z6.getD i 0) (v 11) v9 := hp 11 (by decide)
    rw [fr_puts0 _ _ _ (by decide) (by intro d hd; simp at hd; simp; omega)]
    simp only [puts, Nat.zero_add, Nat.reduceAdd]
    rw [q11]
    have CA := Lib.hid C
    have hlh := C.lh
    clear hp C q11
    generalize v 0 = u0, v 1 = u1, v 2 = u2, v 3 = u3, v 4 = u4, v 5 = u5, v 6 = u6, v 7 = u7, v 8 = u8, v 9 = u9, v 10 = u10
    have XB2 := Lib.hid (got_below X2.out hb)
    have XB3 := Lib.hid (got_below X3.out hb)
    have XB5 := Lib.hid (got_below X5.out hb)
    have XB6 := Lib.hid (got_below X6.out hb)
    have s9 := hb.size
    replace B := bel_trans B hb B.size
    clear X2 X3 X5 X6 I hb hmk
    go_wp2_with fail
    refine (makeLocals_any d6 len6 len6 z6 _ (got_row XB6.out l6.out (by omega)) (by omega)).mono ?_
    rintro e v10 ⟨gB, rfl, hgB, GR, GF, bb⟩
    have s10 := bb.size
    have gendB : gB + len6 < v10.heap.size := by
      by_cases e0 : len6 = 0
      · have := GR.lt; omega
      · have := (GF (len6 - 1) (by omega)).lt; omega
    have Y2 := Lib.hid (got_below XB2.out bb)
    have Y3 := Lib.hid (got_below XB3.out bb)
    have Y5 := Lib.hid (got_below XB5.out bb)
    have CB := Lib.hid (CA.out.hold 0 (Nat.zero_le _) (Nat.zero_le _) (fun k _ hk => bb.block k hk))
    replace B := bel_trans B bb B.size
    have IB := Lib.hid (show Infos v10 gB len6 (fun i => z6.getD i 0) from ⟨GR, GF⟩)
    clear bb GR GF XB2 XB3 XB5 XB6 CA
    go_wp2_with fail
    have hmk := run_make_row' (P := Tryf.prog) 24 3 (.int .i64 0) 8 Tryf.underlying24 infoI rfl .i64 .i64 len5 (by omega) (by omega)
    refine region_inv [116, 117, 118, 119, 120, 121, 122, 123, 124, 125, 126, 127, 128, 20] (bPost v10.heap.size a0 a1 d2 d3 d5 len2 len3 a4 len6 len5 gB z2 z3 z5 (fun i => z6.getD i 0)) _ v10 (by kernel_rfl) rfl ?_ (by decide) (by intro d hd; simp at hd; simp; omega) ?_ (bPost_stays _ _ _ _ _ _ _ _ _ _ _ _ _ _ _ _) ?_ ?_
    · intro i o ho
      match i, ho with
      | 0, rfl => rfl
      | 1, rfl => rfl
      | 2, rfl => rfl
      | 3, rfl => rfl
      | 4, rfl => rfl
      | 5, rfl => rfl
      | 6, rfl => rfl
      | 7, rfl => rfl
      | 8, rfl => rfl
      | 9, rfl => rfl
      | 10, rfl => rfl
      | 11, rfl => rfl
      | 12, rfl => rfl
      | 13, rfl => rfl
    · intro i o ho
      match i, ho with
      | 0, rfl => decide
      | 1, rfl => decide
      | 2, rfl => decide
      | 3, rfl => decide
      | 4, rfl => decide
      | 5, rfl => decide
      | 6, rfl => decide
      | 7, rfl => decide
      | 8, rfl => decide
      | 9, rfl => decide
      | 10, rfl => decide
      | 11, rfl => decide
      | 12, rfl => decide
      | 13, rfl => decide
    · intro i o ho a w1 K hb' hoff hin hK
      have hb : Below v10.heap.size v10 w1 := (Below.refl v10.heap.size v10).drew.trans hb'
      have hsz := hb.size
      match i, ho with
      | 0, rfl => exact wpOp_plain rfl rfl (wp_value (v := sl a 0) rfl (hK _ _ (hoff 0 (by decide)) (Below.refl _ _)))
      | 1, rfl => exact wpOp_plain rfl rfl (wp_value (v := sl a 1) rfl (hK _ _ (hoff 1 (by decide)) (Below.refl _ _)))
      | 2, rfl => exact wpOp_plain rfl rfl (wp_value (v := sl a 2) rfl (hK _ _ (hoff 2 (by decide)) (Below.refl _ _)))
      | 3, rfl =>
        have q0 : a.eval (.tmp 118) = .slice d2 len2 len2 := hin ⟨2, .data⟩ (by simp) rfl
        refine wpOp_plain rfl rfl (wp_call (vs := #[.slice d2 len2 len2]) (by rw [← q0]; kernel_rfl) (cloneStr_any _ _ _ z2 w1 (got_row (got_below Y2.out hb) l2.out (by omega)) (by omega)) ?_)
        intro en w2 C
        obtain ⟨v, rfl, h1, h2⟩ := GPost.of (lo := v10.heap.size) hsz C
        exact ⟨v, rfl, hK _ _ h1 h2⟩
      | 4, rfl => exact wpOp_plain rfl rfl (wp_value (v := sl a 3) rfl (hK _ _ (hoff 3 (by decide)) (Below.refl _ _)))
      | 5, rfl =>
        have q0 : a.eval (.tmp 120) = .slice d3 len3 len3 := hin ⟨4, .data⟩ (by simp) rfl
        refine wpOp_plain rfl rfl (wp_call (vs := #[.slice d3 len3 len3]) (by rw [← q0]; kernel_rfl) (cloneStr_any _ _ _ z3 w1 (got_row (got_below Y3.out hb) l3.out (by omega)) (by omega)) ?_)
        intro en w2 C
        obtain ⟨v, rfl, h1, h2⟩ := GPost.of (lo := v10.heap.size) hsz C
        exact ⟨v, rfl, hK _ _ h1 h2⟩
      | 6, rfl => exact wpOp_plain rfl rfl (wp_value (v := sl a 4) rfl (hK _ _ (hoff 4 (by decide)) (Below.refl _ _)))
      | 7, rfl => exact wpOp_plain rfl rfl (wp_value (v := sl a 5) rfl (hK _ _ (hoff 5 (by decide)) (Below.refl _ _)))
      | 8, rfl =>
        have q0 : a.eval (.tmp 123) = .slice d5 len5 len5 := hin ⟨7, .data⟩ (by simp) rfl
        refine wpOp_plain rfl rfl (wp_call (vs := #[.slice d5 len5 len5]) (by rw [← q0]; kernel_rfl) (cloneU32_any _ _ _ z5 w1 (got_row (got_below Y5.out hb) l5.out (by omega)) (by omega)) ?_)
        intro en w2 C
        obtain ⟨v, rfl, h1, h2⟩ := GPost.of (lo := v10.heap.size) hsz C
        exact ⟨v, rfl, hK _ _ h1 h2⟩
      | 9, rfl => exact wpOp_plain rfl rfl (wp_value (v := sl a 16) rfl (hK _ _ (hoff 16 (by decide)) (Below.refl _ _)))
      | 10, rfl =>
        have q0 : a.eval (.tmp 125) = .int .i64 len5 := hin ⟨9, .data⟩ (by simp) rfl
        refine wpOp_plain rfl rfl (wp_value (ex_make (by rw [q0]; exact hmk w1)) (hK _ _ ⟨_, rfl, ?_, ?_⟩ ((Below.refl _ _).alloc (Nat.le_refl _) _)))
        · rcases made_got w1 len5 with h | ⟨b, e, hB, hr⟩
          · exact .inl h
          · exact .inr ⟨b, e, by omega, hr⟩
        · rintro x ⟨⟩
          simp
          omega
      | 11, rfl => exact wpOp_plain rfl rfl (wp_value (v := sl a 19) rfl (hK _ _ (hoff 19 (by decide)) (Below.refl _ _)))
      | 12, rfl =>
        have q0 : a.eval (.tmp 116) = .bool a0 := hin ⟨0, .data⟩ (by simp) rfl
        have q1 : a.eval (.tmp 117) = .int .i64 a1 := hin ⟨1, .data⟩ (by simp) rfl
        obtain ⟨c2, q2, G2, R2⟩ : GPost v10.heap.size 9 len2 (fun i => .string (z2.getD i ByteArray.empty)) (a.eval (.tmp 119)) w1 := hin ⟨3, .data⟩ (by simp) rfl
        obtain ⟨c3, q3, G3, R3⟩ : GPost v10.heap.size 9 len3 (fun i => .string (z3.getD i ByteArray.empty)) (a.eval (.tmp 121)) w1 := hin ⟨5, .data⟩ (by simp) rfl
        have q4 : a.eval (.tmp 122) = .int .i64 a4 := hin ⟨6, .data⟩ (by simp) rfl
        obtain ⟨c, q6, G6, R6⟩ : GPost v10.heap.size 36 len5 (fun i => .int .u32 (z5.getD i 0)) (a.eval (.tmp 124)) w1 := hin ⟨8, .data⟩ (by simp) rfl
        obtain ⟨m, q8, G8, R8⟩ : GPost v10.heap.size 3 len5 (fun i => .int .i64 ((List.replicate len5 (0 : Int)).getD i 0)) (a.eval (.tmp 126)) w1 := hin ⟨10, .data⟩ (by simp) rfl
        have q9 : a.eval (.tmp 127) = .slice (some ⟨gB, 0, none⟩) len6 len6 := hin ⟨11, .data⟩ (by simp) rfl
        refine wpOp_plain rfl rfl (wp_call (vs := #[.bool a0, .int .i64 a1, .slice c2 len2 len2, .slice c3 len3 len3, .int .i64 a4, .slice c len5 len5, .slice m len5 len5, .slice (some ⟨gB, 0, none⟩) len6 len6, .int .i64 0]) (by rw [← q0, ← q1, ← q2, ← q3, ← q4, ← q6, ← q8, ← q9]; kernel_rfl) (made_all v10.heap.size v10.heap.size a0 a1 c2 c3 c m len2 len3 a4 len6 len5 gB z3 z5 (fun i => z6.getD i 0) w1 (by omega) (by omega) (by omega) (by omega) (by omega) G3 (fun x hx => (R3 x hx).2) G6 R6 l5.out G8 R8 (IB.out.hold fun k _ _ hk => hb.block k hk) gendB hsz) ?_)
        rintro en w2 ⟨v, rfl, h1, h2⟩
        exact ⟨v, rfl, hK _ _ h1 h2⟩
      | 13, rfl => exact wpOp_plain rfl rfl (wp_value (v := sl a 128) rfl (hK _ _ (hin ⟨12, .data⟩ (by simp) rfl) (Below.refl _ _)))
    · intro v v11 hp hb
      obtain ⟨hB, e2', e3', q13, C, hhB⟩ : RPost v10.heap.size v10.heap.size a0 a1 len2 len3 a4 len6 len5 gB z3 z5 (fun i => z6.getD i 0) (v 13) v11 := hp 13 (by decide)
      rw [fr_puts0 _ _ _ (by decide) (by intro d hd; simp at hd; simp; omega)]
      simp only [puts, Nat.zero_add, Nat.reduceAdd]
      rw [q13]
      have DB := Lib.hid C
      have DA := Lib.hid (CB.out.hold 0 (Nat.zero_le _) (Nat.zero_le _) (fun k _ hk => hb.block k hk))
      clear hp C q13
      generalize v 0 = t0, v 1 = t1', v 2 = t2', v 3 = t3, v 4 = t4, v 5 = t5, v 6 = t6, v 7 = t7, v 8 = t8, v 9 = t9, v 10 = t10, v 11 = t11, v 12 = t12
      have s11 := hb.size
      replace B := bel_trans B hb B.size
      clear Y2 Y3 Y5 IB CB hb hmk
      go_wp2_with fail
      refine (leave_all DA.out (by omega) (by omega) (by omega) l3.out (by omega) (by omega)).mono ?_
      rintro en v12 ⟨rfl, D1, s12, b12, k12⟩
      have DA1 := Lib.hid D1
      have DB1 := Lib.hid (DB.out.hold (h + 10) (by omega) (by omega) k12)
      replace B := B.trans (b12 w.heap.size (by have := B.size; omega))
      clear DA DB D1 b12 k12
      go_wp2_with fail
      refine (close_all DB1.out (by omega) (by omega) (by omega)).mono ?_
      rintro en v13 ⟨rfl, M, s13, b13, k13⟩
      have MB := Lib.hid M
      have DA2 := Lib.hid (k13 _ _ _ _ _ _ _ _ (fun e => by rw [e]; simp [mm]) (by omega) (by omega) DA1.out)
      replace B := B.trans (b13 w.heap.size (by have := B.size; omega))
      clear DA1 DB1 M b13 k13
      go_wp2_with fail
      have hmm : mm a0 len5 ≤ 65537 := by unfold mm; split <;> omega
      refine (end_all MB.out (by omega) (by omega) (by omega) l3.out hmm (by omega)).mono ?_
      rintro en v14 ⟨rfl, D3, s14, b14, k14⟩
      have DB3 := Lib.hid D3
      have DA3 := Lib.hid (k14 _ _ _ _ _ _ _ _ (by omega) (by omega) DA2.out)
      replace B := B.trans (b14 w.heap.size (by have := B.size; omega))
      clear DA2 MB D3 b14 k14
      go_wp2_with fail
      obtain ⟨M, hM⟩ : ∃ M, mm a0 len5 = M := ⟨_, rfl⟩
      rw [hM] at DA3 DB3 hmm
      clear hM
      refine (codePC_c h _ v14 DA3.out.c1 DA3.out.pc).mono ?_
      rintro en w' ⟨rfl, rfl⟩
      go_wp2_with fail
      refine (codePC_c hB _ v14 DB3.out.c1 DB3.out.pc).mono ?_
      rintro en w' ⟨rfl, rfl⟩
      go_wp2_with fail
      go_loopw [24] (fun i wr => ∃ k m : Nat, k ≤ M ∧ i = .int .i64 k ∧ wr = v14.drewN m) (fun i _ => M - (intOf i).toNat)
      case atStart => exact ⟨0, 0, Nat.zero_le _, rfl, rfl⟩
      case round =>
        obtain ⟨k, m, hk, rfl, rfl⟩ := hrel
        by_cases hlt : k < M
        · have hlt' : (k : Int) < (M : Int) := by omega
          obtain ⟨X, p, Y, q, x0, x1, y0, y1⟩ := DA3.out.at hlt
          obtain ⟨X', p', Y', q', x0', x1', y0', y1'⟩ := DB3.out.at hlt
          generalize (uu a0 (createv 38 (a1 + len2) 0 0) z5).getD k 0 = uv at x1 x1'
          generalize (uu a0 a4 (List.replicate len5 0)).getD k 0 = lv at y1 y1'
          have e1 := Lib.hid DA3.out.c1
          have e1' := Lib.hid DB3.out.c1
          have X0 := Lib.hid x0
          have X1 := Lib.hid x1
          have Y0 := Lib.hid y0
          have Y1 := Lib.hid y1
          have X0' := Lib.hid x0'
          have X1' := Lib.hid x1'
          have Y0' := Lib.hid y0'
          have Y1' := Lib.hid y1'
          clear x0 x1 y0 y1 x0' x1' y0' y1'
          go_wp2_with fail
          refine (codeAt_c h X M p k _ (v14.drewN m) e1.out X0.out hlt' X1.out).mono ?_
          rintro en w' ⟨rfl, rfl⟩
          go_wp2_with fail
          refine (codeAt_c hB X' M p' k _ (v14.drewN m) e1'.out X0'.out hlt' X1'.out).mono ?_
          rintro en w' ⟨rfl, rfl⟩
          go_wp2_with fail
          refine (lineAt_c h Y M q k _ (v14.drewN m) e1.out Y0.out hlt' Y1.out).mono ?_
          rintro en w' ⟨rfl, rfl⟩
          go_wp2_with fail
          refine (lineAt_c hB Y' M q' k _ (v14.drewN m) e1'.out Y0'.out hlt' Y1'.out).mono ?_
          rintro en w' ⟨rfl, rfl⟩
          go_wp2_with fail
          go_roundw
          case rel => exact ⟨k + 1, _, by omega, by go_num, rfl⟩
          case measure => simp [intOf]; omega
        · obtain rfl : M = k := by omega
          have IA := Lib.hid DA3.out.I
          have IB := Lib.hid DB3.out.I
          clear DA3 DB3
          go_wp2_with fail
          go_loopw [25] (fun i wr => ∃ k m : Nat, k ≤ len6 ∧ i = .int .i64 k ∧ wr = v14.drewN m) (fun i _ => len6 - (intOf i).toNat)
          case atStart => exact ⟨0, m, Nat.zero_le _, rfl, rfl⟩
          case round =>
            obtain ⟨k, m, hk, rfl, rfl⟩ := hrel
            by_cases hlt : k < len6
            · have hlt' : (k : Int) < (len6 : Int) := by omega
              have cp : v14.cell? ⟨g, k, none⟩ = some (.pointer (some ⟨g + 1 + k, 0, none⟩)) := IA.out.1.cell (i := k) hlt
              have cp' : v14.cell? ⟨gB, k, none⟩ = some (.pointer (some ⟨gB + 1 + k, 0, none⟩)) := IB.out.1.cell (i := k) hlt
              have c2 := (IA.out.2 k hlt).cell (i := 2) (by omega)
              have c2' := (IB.out.2 k hlt).cell (i := 2) (by omega)
              simp only [lf, List.getD_cons_zero, List.getD_cons_succ] at c2 c2'
              generalize stamp (a1 + len2) (a1 + len2 + len3) ((M : Nat) : Int) (z6.getD k 0) k = sv at c2 c2'
              go_wp2_with fail
              go_quiet (fail)
              go_wp2_with fail
              go_roundw
              case rel => exact ⟨k + 1, _, by omega, by go_num, rfl⟩
              case measure => simp [intOf]; omega
            · obtain rfl : len6 = k := by omega
              go_wp2_with fail
              go_ret
              exact ⟨rfl, below_drewN B m⟩
end Go.Proofs.YticnfohoddlolaaFmt.fnLeaveBlockAgreesWithCloseThenEndScope
