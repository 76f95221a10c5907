/- EnterBlock (n005_54). -/
import Derived.Test.YtpkolfmdockdnaaFmtInv2
import Derived.Test.YtpkolfmdockdnaaFmtNf
import Derived.Test.YtpkolfmdockdnaaFmtGst
import Derived.ArgAppend
namespace Go.Proofs.YtpkolfmdockdnaaFmt.inv
open Go.ChangeShapes Go.WideShapes Go.ChangeAt Go.RowKit
set_option linter.unusedVariables false
set_option maxRecDepth 100000

theorem blockN_any (p : Nat) (x : Option Addr) (k : Int) (w : World) : Calls Tryf.prog 18 #[.pointer (some ⟨p, 0, none⟩), .int .i64 0, .pointer x, .nilIface, .int .i64 k] w fun e w' => ∃ b, e = .returned (.pointer (some ⟨b, 0, none⟩)) ∧ w.heap.size ≤ b ∧ w'.cell? ⟨b, 7, none⟩ = some (.int .i64 k) ∧ Below w.heap.size w w' := by
  have hmm := @run_makeMap Tryf.prog
  go_enter Tryf.func18, Tryf.ntmps18
  go_wp2_with fail
  go_ret
  refine ⟨_, rfl, by simp, by simp, ((Below.refl w.heap.size w).alloc (Nat.le_refl _) _).alloc (by simp) _⟩

theorem regTop_any (F : Nat) (w : World) (c6 : w.cell? ⟨F, 6, none⟩ = some (.int .i64 0)) : Calls Tryf.prog 19 #[.pointer (some ⟨F, 0, none⟩)] w fun e w' => e = .returned (.int .i64 0) ∧ Below w.heap.size w w' := by
  go_enter Tryf.func19, Tryf.ntmps19
  go_wp2
  go_ret
  exact ⟨rfl, Below.refl _ _⟩

theorem load4 (F pB : Nat) (w : World) (c : w.cell? ⟨F, 4, none⟩ = some (.pointer (some ⟨pB, 0, none⟩))) : (Instr.loadAt 38 (.pointer (some ⟨F, 4, none⟩))).run Tryf.prog w = .ok (.pointer (some ⟨pB, 0, none⟩)) w := by
  simp [go_sem, c]
theorem load9 (F : Nat) (k : Int) (w : World) (c : w.cell? ⟨F, 9, none⟩ = some (.int .i64 k)) : (Instr.loadAt 3 (.pointer (some ⟨F, 9, none⟩))).run Tryf.prog w = .ok (.int .i64 k) w := by
  simp [go_sem, c]
theorem store4 (F nb : Nat) (w : World) (v : Value) (c : w.cell? ⟨F, 4, none⟩ = some v) (f4 : w.frozen? ⟨F, 4, none⟩ = false) : (Instr.storeAt 38 (.pointer (some ⟨F, 4, none⟩)) (.pointer (some ⟨nb, 0, none⟩))).run Tryf.prog w = .ok () (w.setCell ⟨F, 4, none⟩ (.pointer (some ⟨nb, 0, none⟩))) := by
  simp [go_sem, c, f4]
theorem field4 (F : Nat) (w : World) : (Instr.fieldAt 42 (.pointer (some ⟨F, 0, none⟩)) 4).run Tryf.prog w = .ok (.pointer (some ⟨F, 4, none⟩)) w := by kernel_rfl
theorem field9 (F : Nat) (w : World) : (Instr.fieldAt 42 (.pointer (some ⟨F, 0, none⟩)) 9).run Tryf.prog w = .ok (.pointer (some ⟨F, 9, none⟩)) w := by kernel_rfl
section
variable {P : Program} {ρ : Operand → Value} {d : Option Tmp} {ty : TypeId} {pos : String} {after : Array Edge} {g : Option (Nat × Bool)} {w w' : World} {v : Value}
theorem ex_nil {x : Operand} {a : Addr} (h : ρ x = .pointer (some a)) : (execOp ρ ⟨d, .nilCheck x, ty, pos, after, g⟩).run P w = .ok (.value (.pointer (some a))) w := by
  simp [execOp, h]
theorem ex_field {t : TypeId} {x : Operand} {i : Nat} (h : (Instr.fieldAt t (ρ x) i).run P w = .ok v w') : (execOp ρ ⟨d, .fieldAddr t x i, ty, pos, after, g⟩).run P w = .ok (.value v) w' := by
  simp [execOp, h]
end

theorem load5 (F sB : Nat) (w : World) (c : w.cell? ⟨F, 5, none⟩ = some (.slice (some ⟨sB, 0, none⟩) 1 1)) : (Instr.loadAt 39 (.pointer (some ⟨F, 5, none⟩))).run Tryf.prog w = .ok (.slice (some ⟨sB, 0, none⟩) 1 1) w := by
  simp [go_sem, c]
theorem store5 (F g n c : Nat) (w : World) (v : Value) (h : w.cell? ⟨F, 5, none⟩ = some v) (f5 : w.frozen? ⟨F, 5, none⟩ = false) : (Instr.storeAt 39 (.pointer (some ⟨F, 5, none⟩)) (.slice (some ⟨g, 0, none⟩) n c)).run Tryf.prog w = .ok () (w.setCell ⟨F, 5, none⟩ (.slice (some ⟨g, 0, none⟩) n c)) := by
  simp [go_sem, h, f5]
theorem field5 (F : Nat) (w : World) : (Instr.fieldAt 42 (.pointer (some ⟨F, 0, none⟩)) 5).run Tryf.prog w = .ok (.pointer (some ⟨F, 5, none⟩)) w := by kernel_rfl
theorem slice1 (nb : Nat) (w : World) : (Instr.buildSlice 39 1 #[(0, .pointer (some ⟨nb, 0, none⟩))]).run Tryf.prog w = .ok (.slice (some ⟨w.heap.size, 0, none⟩) 1 1) (w.alloc (.cells #[.pointer (some ⟨nb, 0, none⟩)] 38)) := by kernel_rfl
theorem infoPB : (Tryf.prog.info? 38).map (fun i => (i.zero, i.size, i.bytes)) = some (some (Value.pointer none), 1, 8) := by kernel_rfl
section
variable {P : Program} {ρ : Operand → Value} {d : Option Tmp} {ty : TypeId} {pos : String} {after : Array Edge} {g : Option (Nat × Bool)} {w w' : World} {v : Value}
theorem ex_slice {t : TypeId} {n : Nat} {x : Operand} {y : Value} (hx : ρ x = y) (h : (Instr.buildSlice t n #[(0, y)]).run P w = .ok v w') : (execOp ρ ⟨d, .buildSlice t n #[(0, x)], ty, pos, after, g⟩).run P w = .ok (.value v) w' := by
  subst hx
  simp [execOp, h]
theorem ex_append {t : TypeId} {s x : Operand} {y z : Value} (hs : ρ s = y) (hx : ρ x = z) (h : (Builtin.append_ #[t, t] ty #[y, z]).run P w = .ok v w') : (execOp ρ ⟨d, .call { callee := .builtin .append, args := #[s, x], argTypes := #[t, t] }, ty, pos, after, g⟩).run P w = .ok (.value v) w' := by
  simp [execOp, resolve, invoke, builtin, hs, hx, h, Result.andThen]
end

def aPost (F nb sB : Nat) : Nat → Value → World → Prop
  | 3, v, _ => v = .pointer (some ⟨F, 5, none⟩)
  | 12, v, _ => v = .pointer (some ⟨F, 5, none⟩)
  | 4, v, _ => v = .slice (some ⟨sB, 0, none⟩) 1 1
  | 7, v, _ => v = .pointer (some ⟨F, 4, none⟩)
  | 8, v, _ => v = .pointer (some ⟨nb, 0, none⟩)
  | 9, v, w => ∃ c, v = .slice (some ⟨c, 0, none⟩) 1 1 ∧ w.cell? ⟨c, 0, none⟩ = some (.pointer (some ⟨nb, 0, none⟩))
  | 10, v, _ => ∃ g cap, v = .slice (some ⟨g, 0, none⟩) 2 cap
  | _, v, _ => v = .pointer (some ⟨F, 0, none⟩)
theorem aPost_stays (F nb sB : Nat) : ∀ i v w w', aPost F nb sB i v w → Below w.heap.size w w' → aPost F nb sB i v w' := by
  intro i v w w' h b
  unfold aPost at h ⊢
  split <;> simp only at h ⊢
  all_goals first | exact h | skip
  obtain ⟨q, h1, h2⟩ := h
  exact ⟨q, h1, (b.cell (cell_block_lt h2)).trans h2⟩

def ePost (F k pB B : Nat) : Nat → Value → World → Prop
  | 2, v, _ => v = .int .i64 0
  | 3, v, _ => ∃ q, v = .pointer (some ⟨q, 0, none⟩)
  | 4, v, _ => v = .int .i64 0
  | 7, v, _ => v = .pointer (some ⟨F, 4, none⟩)
  | 16, v, _ => v = .pointer (some ⟨F, 4, none⟩)
  | 8, v, _ => v = .pointer (some ⟨pB, 0, none⟩)
  | 9, v, _ => v = .nilIface
  | 12, v, _ => v = .pointer (some ⟨F, 9, none⟩)
  | 13, v, _ => v = .int .i64 k
  | 14, v, w => ∃ b, v = .pointer (some ⟨b, 0, none⟩) ∧ B ≤ b ∧ w.cell? ⟨b, 7, none⟩ = some (.int .i64 k)
  | _, v, _ => v = .pointer (some ⟨F, 0, none⟩)
theorem ePost_stays (F k pB B : Nat) : ∀ i v w w', ePost F k pB B i v w → Below w.heap.size w w' → ePost F k pB B i v w' := by
  intro i v w w' h b
  unfold ePost at h ⊢
  split <;> simp only at h ⊢
  all_goals first | exact h | skip
  obtain ⟨q, h1, h2, h3⟩ := h
  exact ⟨q, h1, h2, (b.cell (cell_block_lt h3)).trans h3⟩

set_option maxHeartbeats 2000000 in
theorem enter_any (F M k sB pB : Nat) (nm : Nat → ByteArray) (ln : Nat → Int) (q : Nat → Nat) (w : World) (h : St w F M k nm ln q) (c4 : w.cell? ⟨F, 4, none⟩ = some (.pointer (some ⟨pB, 0, none⟩))) (c5 : w.cell? ⟨F, 5, none⟩ = some (.slice (some ⟨sB, 0, none⟩) 1 1)) (c6 : w.cell? ⟨F, 6, none⟩ = some (.int .i64 0))
    (f4 : w.frozen? ⟨F, 4, none⟩ = false) (f5 : w.frozen? ⟨F, 5, none⟩ = false) (hs : w.rowIs sB 38 1 (lf [.pointer (some ⟨pB, 0, none⟩)])) (hne : sB ≠ F) :
    Calls Tryf.prog 14 #[.pointer (some ⟨F, 0, none⟩), .int .i64 0, .nilIface] w fun e w' => e = .returned (.tuple #[]) ∧ ∃ nb, w'.cell? ⟨F, 4, none⟩ = some (.pointer (some ⟨nb, 0, none⟩)) ∧ w'.cell? ⟨nb, 7, none⟩ = some (.int .i64 k) ∧ St w' F M k nm ln q ∧ (∀ B, B ≤ F → Below B w w') ∧ (∀ b T n f, b ≠ F → w.rowIs b T n f → w'.rowIs b T n f) := by
  have c9 := h.c9
  have HS := Lib.hid h
  have HR := Lib.hid hs
  clear h hs
  go_enter Tryf.func14, Tryf.ntmps14
  go_wp2_with fail
  have kF : ∀ (w1 : World), Below w.heap.size w w1 → w1.cell? ⟨F, 4, none⟩ = w.cell? ⟨F, 4, none⟩ ∧ w1.cell? ⟨F, 9, none⟩ = w.cell? ⟨F, 9, none⟩ ∧ w1.cell? ⟨F, 6, none⟩ = w.cell? ⟨F, 6, none⟩ := fun w1 b => ⟨b.cell (cell_block_lt c4), b.cell (cell_block_lt c9), b.cell (cell_block_lt c6)⟩
  refine region_inv2 17 rfl [6, 7, 8, 9, 10, 11, 12, 13, 14, 15, 16, 17, 18, 19, 20, 21, 22] (ePost F k pB w.heap.size) _ w (by kernel_rfl) rfl ?_ (by decide) (by intro d hd; simp at hd; simp; omega) ?_ (ePost_stays _ _ _ _) ?_ ?_ ?_
  · intro i o hi ho
    match i, hi, ho with
    | 0, _, rfl => rfl
    | 1, _, rfl => rfl
    | 2, _, rfl => rfl
    | 3, _, rfl => rfl
    | 4, _, rfl => rfl
    | 5, _, rfl => rfl
    | 6, _, rfl => rfl
    | 7, _, rfl => rfl
    | 8, _, rfl => rfl
    | 9, _, rfl => rfl
    | 10, _, rfl => rfl
    | 11, _, rfl => rfl
    | 12, _, rfl => rfl
    | 13, _, rfl => rfl
    | 14, _, rfl => rfl
    | 15, _, rfl => rfl
    | 16, _, rfl => rfl
    | i + 17, hi, _ => exact absurd hi (by omega)
  · intro i o ho
    match i, ho with
    | 0, rfl => decide
    | 1, rfl => decide
    | 2, rfl => decide
    | 3, rfl => decide
    | 4, rfl => decide
    | 5, rfl => decide
    | 6, rfl => decide
    | 7, rfl => decide
    | 8, rfl => decide
    | 9, rfl => decide
    | 10, rfl => decide
    | 11, rfl => decide
    | 12, rfl => decide
    | 13, rfl => decide
    | 14, rfl => decide
    | 15, rfl => decide
    | 16, rfl => decide
    | 17, rfl => decide
    | i + 18, ho => simp at ho
  · intro i o hi ho a w1 K hb' hoff hin hK
    have hb : Below w.heap.size w w1 := (Below.refl w.heap.size w).drew.trans hb'
    obtain ⟨g4, g9, g6⟩ := kF w1 hb
    rw [c4] at g4
    rw [c9] at g9
    rw [c6] at g6
    have hsz : w.heap.size ≤ w1.heap.size := hb.size
    match i, hi, ho with
    | 0, _, rfl => exact wpOp_plain rfl rfl (wp_value (v := sl a 0) rfl (hK _ _ (hoff 0 (by decide)) (Below.refl _ _)))
    | 1, _, rfl => exact wpOp_plain rfl rfl (wp_value (v := sl a 0) rfl (hK _ _ (hoff 0 (by decide)) (Below.refl _ _)))
    | 2, _, rfl =>
      have q0 : a.eval (.tmp 7) = .pointer (some ⟨F, 0, none⟩) := hin ⟨1, .data⟩ (by simp) rfl
      refine wpOp_plain rfl rfl (wp_call (vs := #[.pointer (some ⟨F, 0, none⟩)]) (by rw [← q0]; kernel_rfl) (regTop_any F w1 g6) ?_)
      rintro e w2 ⟨rfl, b⟩
      exact ⟨_, rfl, hK _ _ rfl b⟩
    | 3, _, rfl =>
      have q0 : a.eval (.tmp 8) = .int .i64 0 := hin ⟨2, .data⟩ (by simp) rfl
      refine wpOp_plain rfl rfl (wp_call (vs := #[.int .i64 0]) (by rw [← q0]; kernel_rfl) (newPool_any 0 w1) ?_)
      rintro e w2 ⟨rfl, _, _, b⟩
      exact ⟨_, rfl, hK _ _ ⟨_, rfl⟩ b⟩
    | 4, _, rfl => exact wpOp_plain rfl rfl (wp_value (v := sl a 1) rfl (hK _ _ (hoff 1 (by decide)) (Below.refl _ _)))
    | 5, _, rfl => exact wpOp_plain rfl rfl (wp_value (v := sl a 0) rfl (hK _ _ (hoff 0 (by decide)) (Below.refl _ _)))
    | 6, _, rfl =>
      have q0 : a.eval (.tmp 11) = .pointer (some ⟨F, 0, none⟩) := hin ⟨5, .data⟩ (by simp) rfl
      exact wpOp_plain rfl rfl (wp_value (ex_nil q0) (hK _ _ rfl (Below.refl _ _)))
    | 7, _, rfl =>
      have q0 : a.eval (.tmp 12) = .pointer (some ⟨F, 0, none⟩) := hin ⟨6, .data⟩ (by simp) rfl
      exact wpOp_plain rfl rfl (wp_value (ex_field (by rw [q0]; exact field4 F w1)) (hK _ _ rfl (Below.refl _ _)))
    | 8, _, rfl =>
      have q0 : a.eval (.tmp 13) = .pointer (some ⟨F, 4, none⟩) := hin ⟨7, .data⟩ (by simp) rfl
      exact wpOp_plain rfl rfl (wp_value (ex_load (by rw [q0]; exact load4 F pB w1 g4)) (hK _ _ rfl (Below.refl _ _)))
    | 9, _, rfl => exact wpOp_plain rfl rfl (wp_value (v := sl a 2) rfl (hK _ _ (hoff 2 (by decide)) (Below.refl _ _)))
    | 10, _, rfl => exact wpOp_plain rfl rfl (wp_value (v := sl a 0) rfl (hK _ _ (hoff 0 (by decide)) (Below.refl _ _)))
    | 11, _, rfl =>
      have q0 : a.eval (.tmp 16) = .pointer (some ⟨F, 0, none⟩) := hin ⟨10, .data⟩ (by simp) rfl
      exact wpOp_plain rfl rfl (wp_value (ex_nil q0) (hK _ _ rfl (Below.refl _ _)))
    | 12, _, rfl =>
      have q0 : a.eval (.tmp 17) = .pointer (some ⟨F, 0, none⟩) := hin ⟨11, .data⟩ (by simp) rfl
      exact wpOp_plain rfl rfl (wp_value (ex_field (by rw [q0]; exact field9 F w1)) (hK _ _ rfl (Below.refl _ _)))
    | 13, _, rfl =>
      have q0 : a.eval (.tmp 18) = .pointer (some ⟨F, 9, none⟩) := hin ⟨12, .data⟩ (by simp) rfl
      exact wpOp_plain rfl rfl (wp_value (ex_load (by rw [q0]; exact load9 F k w1 g9)) (hK _ _ rfl (Below.refl _ _)))
    | 14, _, rfl =>
      obtain ⟨q, q0⟩ : ∃ q, a.eval (.tmp 9) = .pointer (some ⟨q, 0, none⟩) := hin ⟨3, .data⟩ (by simp) rfl
      have q1 : a.eval (.tmp 10) = .int .i64 0 := hin ⟨4, .data⟩ (by simp) rfl
      have q2 : a.eval (.tmp 14) = .pointer (some ⟨pB, 0, none⟩) := hin ⟨8, .data⟩ (by simp) rfl
      have q3 : a.eval (.tmp 15) = .nilIface := hin ⟨9, .data⟩ (by simp) rfl
      have q4 : a.eval (.tmp 19) = .int .i64 k := hin ⟨13, .data⟩ (by simp) rfl
      refine wpOp_plain rfl rfl (wp_call (vs := #[.pointer (some ⟨q, 0, none⟩), .int .i64 0, .pointer (some ⟨pB, 0, none⟩), .nilIface, .int .i64 k]) (by rw [← q0, ← q1, ← q2, ← q3, ← q4]; kernel_rfl) (blockN_any q (some ⟨pB, 0, none⟩) k w1) ?_)
      rintro e w2 ⟨b, rfl, hb1, hb7, b2⟩
      exact ⟨_, rfl, hK _ _ ⟨b, rfl, by omega, hb7⟩ b2⟩
    | 15, _, rfl =>
      have q0 : a.eval (.tmp 6) = .pointer (some ⟨F, 0, none⟩) := hin ⟨0, .data⟩ (by simp) rfl
      exact wpOp_plain rfl rfl (wp_value (ex_nil q0) (hK _ _ rfl (Below.refl _ _)))
    | 16, _, rfl =>
      have q0 : a.eval (.tmp 21) = .pointer (some ⟨F, 0, none⟩) := hin ⟨15, .data⟩ (by simp) rfl
      exact wpOp_plain rfl rfl (wp_value (ex_field (by rw [q0]; exact field4 F w1)) (hK _ _ rfl (Below.refl _ _)))
    | i + 17, hi, _ => exact absurd hi (by omega)
  · intro L h1 h2 j hj
    have hl := fun e he hb => h2 _ rfl e he hb
    match j, hj with
    | 0, _ => exact hl ⟨0, .phase⟩ (by simp) rfl
    | 1, _ => exact hl ⟨1, .phase⟩ (by simp) rfl
    | 2, _ => exact hl ⟨2, .phase⟩ (by simp) rfl
    | 3, _ => exact hl ⟨3, .phase⟩ (by simp) rfl
    | 4, _ => exact hl ⟨4, .phase⟩ (by simp) rfl
    | 5, _ => exact hl ⟨5, .phase⟩ (by simp) rfl
    | 6, _ => exact hl ⟨6, .phase⟩ (by simp) rfl
    | 7, _ => exact hl ⟨7, .phase⟩ (by simp) rfl
    | 8, _ => exact hl ⟨8, .phase⟩ (by simp) rfl
    | 9, _ => exact hl ⟨9, .phase⟩ (by simp) rfl
    | 10, _ => exact hl ⟨10, .phase⟩ (by simp) rfl
    | 11, _ => exact hl ⟨11, .phase⟩ (by simp) rfl
    | 12, _ => exact hl ⟨12, .phase⟩ (by simp) rfl
    | 13, _ => exact hl ⟨13, .phase⟩ (by simp) rfl
    | 14, _ => exact hl ⟨14, .phase⟩ (by simp) rfl
    | 15, _ => exact h1 16 _ (by decide) rfl (hl ⟨16, .data⟩ (by simp) rfl) ⟨15, .data⟩ (by simp) rfl
    | 16, _ => exact hl ⟨16, .data⟩ (by simp) rfl
    | j + 17, hj => exact absurd hj (by omega)
  · intro v w1 K hp hb hK
    obtain ⟨g4, g9, g6⟩ := kF w1 hb
    rw [c4] at g4
    have q0 : v 16 = .pointer (some ⟨F, 4, none⟩) := hp 16 (by decide)
    obtain ⟨nb, q1, hnb, hc7⟩ : ∃ b, v 14 = .pointer (some ⟨b, 0, none⟩) ∧ w.heap.size ≤ b ∧ w1.cell? ⟨b, 7, none⟩ = some (.int .i64 k) := hp 14 (by decide)
    have e : fr [6, 7, 8, 9, 10, 11, 12, 13, 14, 15, 16, 17, 18, 19, 20, 21, 22] v ⟨#[.pointer (some ⟨F, 0, none⟩), .int .i64 0, .nilIface, undef, undef, undef, undef, undef, undef, undef, undef, undef, undef, undef, undef, undef, undef, undef, undef, undef, undef, undef, undef, undef, undef, undef, undef, undef, undef, undef, undef, undef, undef, undef, undef, undef], []⟩ = ⟨#[.pointer (some ⟨F, 0, none⟩), .int .i64 0, .nilIface, undef, undef, undef, v 0, v 1, v 2, v 3, v 4, v 5, v 6, v 7, v 8, v 9, v 10, v 11, v 12, v 13, v 14, v 15, v 16, undef, undef, undef, undef, undef, undef, undef, undef, undef, undef, undef, undef, undef], []⟩ := rfl
    rw [e, q0, q1]
    clear hp e q0 q1
    generalize v 0 = v0, v 1 = v1, v 2 = v2, v 3 = v3, v 4 = v4, v 5 = v5, v 6 = v6, v 7 = v7, v 8 = v8, v 9 = v9, v 10 = v10, v 11 = v11, v 12 = v12, v 13 = v13, v 15 = v15
    have y4 : w1.frozen? ⟨F, 4, none⟩ = false := (World.frozen?_of_block (a := ⟨F, 4, none⟩) (hb.block F (cell_block_lt c4))).trans f4
    have y5 : w1.frozen? ⟨F, 5, none⟩ = false := (World.frozen?_of_block (a := ⟨F, 5, none⟩) (hb.block F (cell_block_lt c4))).trans f5
    have g5 := (hb.cell (cell_block_lt c5)).trans c5
    refine wpOp_plain rfl rfl (wp_skip (ex_store (store4 F nb w1 _ g4 y4)) ?_)
    refine hK _ _ ?_
    change Exit.then _ _ Exit.normal ⟨#[.pointer (some ⟨F, 0, none⟩), .int .i64 0, .nilIface, undef, undef, undef, v0, v1, v2, v3, v4, v5, v6, v7, v8, v9, v10, v11, v12, v13, .pointer (some ⟨nb, 0, none⟩), v15, .pointer (some ⟨F, 4, none⟩), undef, undef, undef, undef, undef, undef, undef, undef, undef, undef, undef, undef, undef], []⟩ _
    clear hK K
    have S1 := Lib.hid (HS.out.below hb)
    have R1 := Lib.hid (rowIs_below hb HR.out.lt HR.out)
    have hFl : F < w.heap.size := cell_block_lt c4
    have hFn : nb ≠ F := by omega
    obtain ⟨W0, hW0⟩ : ∃ W, W = w1.setCell ⟨F, 4, none⟩ (.pointer (some ⟨nb, 0, none⟩)) := ⟨_, rfl⟩
    have S0 : Hid (St W0 F M k nm ln q) := Lib.hid (by rw [hW0]; exact S1.out.setF 4 _ (by decide) (by decide))
    have R0 : Hid (W0.rowIs sB 38 1 (lf [.pointer (some ⟨pB, 0, none⟩)])) := Lib.hid (by rw [hW0]; exact R1.out.setOther (a := ⟨F, 4, none⟩) hne _)
    have x4 : W0.cell? ⟨F, 4, none⟩ = some (.pointer (some ⟨nb, 0, none⟩)) := by rw [hW0]; exact World.cell?_setCell_same _ _ _ g4
    have x5 : W0.cell? ⟨F, 5, none⟩ = some (.slice (some ⟨sB, 0, none⟩) 1 1) := by rw [hW0, World.cell?_setCell_other _ _ _ _ (by simp)]; exact g5
    have x7 : W0.cell? ⟨nb, 7, none⟩ = some (.int .i64 k) := by rw [hW0, World.cell?_setCell_other _ _ _ _ (fun e => hFn (congrArg Addr.block e).symm)]; exact hc7
    have z5 : W0.frozen? ⟨F, 5, none⟩ = false := by rw [hW0, World.frozen?_setCell]; exact y5
    have B0 : Hid (∀ B, B ≤ F → Below B w W0) := Lib.hid (fun B hB => by rw [hW0]; exact (hb.mono (by omega)).setCell (p := ⟨F, 4, none⟩) hB _)
    have K0 : Hid (∀ b T n f, b ≠ F → w.rowIs b T n f → W0.rowIs b T n f) := Lib.hid (fun b T n f hbF hr => by rw [hW0]; exact (rowIs_below hb hr.lt hr).setOther (a := ⟨F, 4, none⟩) hbF _)
    have hFl0 : F < W0.heap.size := cell_block_lt x4
    rw [← hW0]
    clear hW0 S1 R1 g4 g5 g9 g6 y4 y5 hc7 hnb hb HS HR c4 c5 c6 c9 f4 f5 kF
    go_wp2_with fail
    have kF : ∀ (w1 : World), Below W0.heap.size W0 w1 → w1.cell? ⟨F, 4, none⟩ = W0.cell? ⟨F, 4, none⟩ ∧ w1.cell? ⟨F, 5, none⟩ = W0.cell? ⟨F, 5, none⟩ := fun w1 b => ⟨b.cell (cell_block_lt x4), b.cell (cell_block_lt x5)⟩
    obtain ⟨i0, hi0, hz0, hz1, hz2⟩ := info_parts infoPB
    refine region_inv2 13 rfl [23, 24, 25, 26, 27, 28, 29, 30, 31, 32, 33, 34, 35] (aPost F nb sB) _ W0 (by kernel_rfl) rfl ?_ (by decide) (by intro d hd; simp at hd; simp; omega) ?_ (aPost_stays _ _ _) ?_ ?_ ?_
    · intro i o hi ho
      match i, hi, ho with
      | 0, _, rfl => rfl
      | 1, _, rfl => rfl
      | 2, _, rfl => rfl
      | 3, _, rfl => rfl
      | 4, _, rfl => rfl
      | 5, _, rfl => rfl
      | 6, _, rfl => rfl
      | 7, _, rfl => rfl
      | 8, _, rfl => rfl
      | 9, _, rfl => rfl
      | 10, _, rfl => rfl
      | 11, _, rfl => rfl
      | 12, _, rfl => rfl
      | i + 13, hi, _ => exact absurd hi (by omega)
    · intro i o ho
      match i, ho with
      | 0, rfl => decide
      | 1, rfl => decide
      | 2, rfl => decide
      | 3, rfl => decide
      | 4, rfl => decide
      | 5, rfl => decide
      | 6, rfl => decide
      | 7, rfl => decide
      | 8, rfl => decide
      | 9, rfl => decide
      | 10, rfl => decide
      | 11, rfl => decide
      | 12, rfl => decide
      | 13, rfl => decide
      | i + 14, ho => simp at ho
    · intro i o hi ho a w1 K hb' hoff hin hK
      have hb : Below W0.heap.size W0 w1 := (Below.refl W0.heap.size W0).drew.trans hb'
      obtain ⟨g4, g5⟩ := kF w1 hb
      rw [x4] at g4
      rw [x5] at g5
      match i, hi, ho with
      | 0, _, rfl => exact wpOp_plain rfl rfl (wp_value (v := sl a 0) rfl (hK _ _ (hoff 0 (by decide)) (Below.refl _ _)))
      | 1, _, rfl => exact wpOp_plain rfl rfl (wp_value (v := sl a 0) rfl (hK _ _ (hoff 0 (by decide)) (Below.refl _ _)))
      | 2, _, rfl =>
        have q0 : a.eval (.tmp 24) = .pointer (some ⟨F, 0, none⟩) := hin ⟨1, .data⟩ (by simp) rfl
        exact wpOp_plain rfl rfl (wp_value (ex_nil q0) (hK _ _ rfl (Below.refl _ _)))
      | 3, _, rfl =>
        have q0 : a.eval (.tmp 25) = .pointer (some ⟨F, 0, none⟩) := hin ⟨2, .data⟩ (by simp) rfl
        exact wpOp_plain rfl rfl (wp_value (ex_field (by rw [q0]; exact field5 F w1)) (hK _ _ rfl (Below.refl _ _)))
      | 4, _, rfl =>
        have q0 : a.eval (.tmp 26) = .pointer (some ⟨F, 5, none⟩) := hin ⟨3, .data⟩ (by simp) rfl
        exact wpOp_plain rfl rfl (wp_value (ex_load (by rw [q0]; exact load5 F sB w1 g5)) (hK _ _ rfl (Below.refl _ _)))
      | 5, _, rfl => exact wpOp_plain rfl rfl (wp_value (v := sl a 0) rfl (hK _ _ (hoff 0 (by decide)) (Below.refl _ _)))
      | 6, _, rfl =>
        have q0 : a.eval (.tmp 28) = .pointer (some ⟨F, 0, none⟩) := hin ⟨5, .data⟩ (by simp) rfl
        exact wpOp_plain rfl rfl (wp_value (ex_nil q0) (hK _ _ rfl (Below.refl _ _)))
      | 7, _, rfl =>
        have q0 : a.eval (.tmp 29) = .pointer (some ⟨F, 0, none⟩) := hin ⟨6, .data⟩ (by simp) rfl
        exact wpOp_plain rfl rfl (wp_value (ex_field (by rw [q0]; exact field4 F w1)) (hK _ _ rfl (Below.refl _ _)))
      | 8, _, rfl =>
        have q0 : a.eval (.tmp 30) = .pointer (some ⟨F, 4, none⟩) := hin ⟨7, .data⟩ (by simp) rfl
        exact wpOp_plain rfl rfl (wp_value (ex_load (by rw [q0]; exact load4 F nb w1 g4)) (hK _ _ rfl (Below.refl _ _)))
      | 9, _, rfl =>
        have q0 : a.eval (.tmp 31) = .pointer (some ⟨nb, 0, none⟩) := hin ⟨8, .data⟩ (by simp) rfl
        exact wpOp_plain rfl rfl (wp_value (ex_slice q0 (slice1 nb w1)) (hK _ _ ⟨_, rfl, new0 (l := [])⟩ ((Below.refl _ _).alloc (Nat.le_refl _) _)))
      | 10, _, rfl =>
        have q0 : a.eval (.tmp 27) = .slice (some ⟨sB, 0, none⟩) 1 1 := hin ⟨4, .data⟩ (by simp) rfl
        obtain ⟨c, q1, hc⟩ : ∃ c, a.eval (.tmp 32) = .slice (some ⟨c, 0, none⟩) 1 1 ∧ w1.cell? ⟨c, 0, none⟩ = some (.pointer (some ⟨nb, 0, none⟩)) := hin ⟨9, .data⟩ (by simp) rfl
        have hold : w1.cell? ⟨sB, 0, none⟩ = some (.pointer (some ⟨pB, 0, none⟩)) := (rowIs_below hb R0.out.lt R0.out).cell (i := 0) (by omega)
        obtain ⟨v', w', hrun, own, gr⟩ := run_append_arg_grows (P := Tryf.prog) w1 39 39 38 i0 (.pointer none) 1 8 Tryf.underlying39 hi0 hz0 hz1 hz2 rfl (by decide) ⟨sB, 0, none⟩ 1 1 [.pointer (some ⟨pB, 0, none⟩)] rfl (fun j u hj => by
          match j, hj with
          | 0, rfl => exact hold) ⟨c, 0, none⟩ 1 1 [.pointer (some ⟨nb, 0, none⟩)] rfl (fun j u hj => by
          match j, hj with
          | 0, rfl => exact hc) (by omega) (by unfold maxLen; omega) (by omega)
        obtain ⟨g, cap, hv, _, _⟩ := own_form own (by omega)
        exact wpOp_plain rfl rfl (wp_value (ex_append q0 q1 hrun) (hK _ _ ⟨g, cap, hv⟩ ⟨gr.os, gr.tape, gr.output, gr.size, fun k hk => gr.block k hk (by simp)⟩))
      | 11, _, rfl =>
        have q0 : a.eval (.tmp 23) = .pointer (some ⟨F, 0, none⟩) := hin ⟨0, .data⟩ (by simp) rfl
        exact wpOp_plain rfl rfl (wp_value (ex_nil q0) (hK _ _ rfl (Below.refl _ _)))
      | 12, _, rfl =>
        have q0 : a.eval (.tmp 34) = .pointer (some ⟨F, 0, none⟩) := hin ⟨11, .data⟩ (by simp) rfl
        exact wpOp_plain rfl rfl (wp_value (ex_field (by rw [q0]; exact field5 F w1)) (hK _ _ rfl (Below.refl _ _)))
      | i + 13, hi, _ => exact absurd hi (by omega)
    · intro L h1 h2 j hj
      have hl := fun e he hb => h2 _ rfl e he hb
      match j, hj with
      | 0, _ => exact hl ⟨0, .phase⟩ (by simp) rfl
      | 1, _ => exact hl ⟨1, .phase⟩ (by simp) rfl
      | 2, _ => exact hl ⟨2, .phase⟩ (by simp) rfl
      | 3, _ => exact hl ⟨3, .phase⟩ (by simp) rfl
      | 4, _ => exact hl ⟨4, .phase⟩ (by simp) rfl
      | 5, _ => exact hl ⟨5, .phase⟩ (by simp) rfl
      | 6, _ => exact hl ⟨6, .phase⟩ (by simp) rfl
      | 7, _ => exact hl ⟨7, .phase⟩ (by simp) rfl
      | 8, _ => exact hl ⟨8, .phase⟩ (by simp) rfl
      | 9, _ => exact hl ⟨9, .phase⟩ (by simp) rfl
      | 10, _ => exact hl ⟨10, .phase⟩ (by simp) rfl
      | 11, _ => exact h1 12 _ (by decide) rfl (hl ⟨12, .data⟩ (by simp) rfl) ⟨11, .data⟩ (by simp) rfl
      | 12, _ => exact hl ⟨12, .data⟩ (by simp) rfl
      | j + 13, hj => exact absurd hj (by omega)
    · intro u w1 K hp hb hK
      obtain ⟨g4, g5⟩ := kF w1 hb
      rw [x4] at g4
      rw [x5] at g5
      have q0 : u 12 = .pointer (some ⟨F, 5, none⟩) := hp 12 (by decide)
      obtain ⟨g, cap, q1⟩ : ∃ g cap, u 10 = .slice (some ⟨g, 0, none⟩) 2 cap := hp 10 (by decide)
      have e : fr [23, 24, 25, 26, 27, 28, 29, 30, 31, 32, 33, 34, 35] u ⟨#[.pointer (some ⟨F, 0, none⟩), .int .i64 0, .nilIface, undef, undef, undef, v0, v1, v2, v3, v4, v5, v6, v7, v8, v9, v10, v11, v12, v13, .pointer (some ⟨nb, 0, none⟩), v15, .pointer (some ⟨F, 4, none⟩), undef, undef, undef, undef, undef, undef, undef, undef, undef, undef, undef, undef, undef], []⟩ = ⟨#[.pointer (some ⟨F, 0, none⟩), .int .i64 0, .nilIface, undef, undef, undef, v0, v1, v2, v3, v4, v5, v6, v7, v8, v9, v10, v11, v12, v13, .pointer (some ⟨nb, 0, none⟩), v15, .pointer (some ⟨F, 4, none⟩), u 0, u 1, u 2, u 3, u 4, u 5, u 6, u 7, u 8, u 9, u 10, u 11, u 12], []⟩ := rfl
      rw [e, q0, q1]
      clear hp e q0 q1
      generalize u 0 = u0, u 1 = u1, u 2 = u2, u 3 = u3, u 4 = u4, u 5 = u5, u 6 = u6, u 7 = u7, u 8 = u8, u 9 = u9, u 11 = u11
      have y5 : w1.frozen? ⟨F, 5, none⟩ = false := (World.frozen?_of_block (a := ⟨F, 5, none⟩) (hb.block F hFl0)).trans z5
      refine wpOp_plain rfl rfl (wp_skip (ex_store (store5 F g 2 cap w1 _ g5 y5)) ?_)
      refine hK _ _ ?_
      change (_ : Exit → Act → World → Prop) Exit.normal ⟨#[.pointer (some ⟨F, 0, none⟩), .int .i64 0, .nilIface, undef, undef, undef, v0, v1, v2, v3, v4, v5, v6, v7, v8, v9, v10, v11, v12, v13, .pointer (some ⟨nb, 0, none⟩), v15, .pointer (some ⟨F, 4, none⟩), u0, u1, u2, u3, u4, u5, u6, u7, u8, u9, .slice (some ⟨g, 0, none⟩) 2 cap, u11, .pointer (some ⟨F, 5, none⟩)], []⟩ _
      go_end0
      have h4 : (w1.setCell ⟨F, 5, none⟩ (.slice (some ⟨g, 0, none⟩) 2 cap)).cell? ⟨F, 4, none⟩ = some (.pointer (some ⟨nb, 0, none⟩)) := by rw [World.cell?_setCell_other _ _ _ _ (by simp)]; exact g4
      have h7 : (w1.setCell ⟨F, 5, none⟩ (.slice (some ⟨g, 0, none⟩) 2 cap)).cell? ⟨nb, 7, none⟩ = some (.int .i64 k) := by rw [World.cell?_setCell_other _ _ _ _ (fun e => hFn (congrArg Addr.block e).symm)]; exact (hb.cell (cell_block_lt x7)).trans x7
      exact ⟨rfl, nb, h4, h7, (S0.out.below hb).setF 5 _ (by decide) (by decide), fun B hB => ((B0.out B hB).trans (hb.mono (by omega))).setCell (p := ⟨F, 5, none⟩) hB _, fun b T n f hbF hr => (rowIs_below hb (K0.out b T n f hbF hr).lt (K0.out b T n f hbF hr)).setOther (a := ⟨F, 5, none⟩) hbF _⟩
end Go.Proofs.YtpkolfmdockdnaaFmt.inv
