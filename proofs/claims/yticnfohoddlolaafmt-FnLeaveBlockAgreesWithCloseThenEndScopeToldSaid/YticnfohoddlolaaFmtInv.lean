/- A region that draws its order and whose operations only lay new memory: each operation's own fact, whatever the order. -/
import Derived.Test.YticnfohoddlolaaFmtRows2
import Derived.Orders
namespace Go.Proofs.YticnfohoddlolaaFmt.inv
open Go.ChangeShapes Go.WideShapes Go.ChangeAt Go.RowKit
set_option linter.unusedVariables false

section
variable {P : Program} {ops : Array Oper} {Q : Exit → Act → World → Prop}

/-- What lies in slot t. -/
abbrev sl (a : Act) (t : Nat) : Value := a.tmps.getD t undef

theorem sl_put_same (a : Act) (d : Nat) (v : Value) (h : d < a.tmps.size) : sl (a.put (some d) v) d = v := by
  simp [sl, Act.put, Array.getD, h]
theorem sl_put_other (a : Act) (d t : Nat) (v : Value) (h : t ≠ d) : sl (a.put (some d) v) t = sl a t := by
  have h' : d ≠ t := fun e => h e.symm
  by_cases ht : t < a.tmps.size
  · simp [sl, Act.put, Array.getD, ht, Array.getElem_setIfInBounds, h']
  · simp [sl, Act.put, Array.getD, ht]

theorem cnt_le (p p' : Nat → Bool) (h : ∀ x, p' x = true → p x = true) : ∀ l : List Nat, (l.filter p').length ≤ (l.filter p).length
  | [] => Nat.le_refl _
  | x :: l => by
    have ih := cnt_le p p' h l
    cases hx : p' x with
    | true => simp [List.filter_cons, hx, h x hx]; exact ih
    | false =>
      cases hy : p x with
      | true => simp [List.filter_cons, hx, hy]; omega
      | false => simp [List.filter_cons, hx, hy]; exact ih
theorem cnt_lt (p p' : Nat → Bool) (h : ∀ x, p' x = true → p x = true) (i : Nat) (hi : p i = true) (hi' : p' i = false) : ∀ l : List Nat, i ∈ l → (l.filter p').length < (l.filter p).length
  | x :: l, hm => by
    have le := cnt_le p p' h l
    by_cases e : x = i
    · subst e
      simp [List.filter_cons, hi, hi']
      omega
    · have ih := cnt_lt p p' h i hi hi' l (by simpa [Ne.symm e] using (List.mem_cons.1 hm).resolve_left (Ne.symm e))
      cases hx : p' x with
      | true => simp [List.filter_cons, hx, h x hx]; exact ih
      | false =>
        cases hy : p x with
        | true => simp [List.filter_cons, hx, hy]; omega
        | false => simp [List.filter_cons, hx, hy]; exact ih

structure Inv (ops : Array Oper) (dst : Nat → Nat) (post : Nat → Value → World → Prop) (a0 : Act) (w0 : World) (listed : Array Bool) (a : Act) (w : World) : Prop where
  size : listed.size = ops.size
  defers : a.defers = a0.defers
  tmps : a.tmps.size = a0.tmps.size
  off : ∀ t, (∀ i, i < ops.size → dst i ≠ t) → sl a t = sl a0 t
  bel : Below w0.heap.size w0 w
  on : ∀ i, i < ops.size → listed.getD i true = true → post i (sl a (dst i)) w

/-- What one operation owes: from what stands before it (its edges' facts) to its own fact. -/
def Owes (P : Program) (ops : Array Oper) (Q : Exit → Act → World → Prop) (dst : Nat → Nat) (post : Nat → Value → World → Prop) (a0 : Act) (w0 : World) (i : Nat) (o : Oper) : Prop :=
  ∀ (a : Act) (w : World) (K : Act → World → Prop), Below w0.heap.size w0 w → (∀ t, (∀ j, j < ops.size → dst j ≠ t) → sl a t = sl a0 t) →
    (∀ e ∈ o.after, Region.binds .any e = true → post e.on (sl a (dst e.on)) w) →
    (∀ v w', post i v w' → Below w.heap.size w w' → K (a.put o.dst v) w') → wpOp P ops Q i K a w

theorem any_inv (dst : Nat → Nat) (post : Nat → Value → World → Prop) (a0 : Act) (w0 : World)
    (hdst : ∀ (i : Nat) (o : Oper), ops[i]? = some o → o.dst = some (dst i)) (hinj : ∀ i j, i < ops.size → j < ops.size → dst i = dst j → i = j) (hin : ∀ i, i < ops.size → dst i < a0.tmps.size)
    (hback : ∀ (i : Nat) (o : Oper), ops[i]? = some o → ∀ e ∈ o.after, e.on < i)
    (stays : ∀ i v w w', post i v w → Below w.heap.size w w' → post i v w')
    (owes : ∀ (i : Nat) (o : Oper), ops[i]? = some o → Owes P ops Q dst post a0 w0 i o)
    (done : ∀ a w, Inv ops dst post a0 w0 (Array.replicate ops.size true) a w → Q .normal a w) :
    ∀ (fuel : Nat) (listed : Array Bool) (a : Act) (w : World),
      ((List.range ops.size).filter fun i => !listed.getD i true).length ≤ fuel → Inv ops dst post a0 w0 listed a w → wpAny P .any ops Q fuel listed a w := by
  have full : ∀ (listed : Array Bool) (a : Act) (w : World), Inv ops dst post a0 w0 listed a w → Region.ready .any ops listed = [] → Q .normal a w := by
    intro listed a w h hr
    have all : ∀ i, i < ops.size → listed.getD i true = true := by
      intro i
      induction i using Nat.strongRecOn with
      | _ i ih =>
        intro hi
        cases hl : listed.getD i true with
        | true => rfl
        | false =>
          exfalso
          have hm : i ∈ Region.ready .any ops listed := by
            unfold Region.ready
            refine List.mem_filter.2 ⟨List.mem_range.2 hi, ?_⟩
            have ho : ops[i]? = some ops[i] := Array.getElem?_eq_getElem hi
            rw [hl, ho]
            simp only [Bool.not_false, Bool.true_and, Option.map_some, Option.getD_some]
            rw [Array.all_eq_true_iff_forall_mem]
            intro e he
            have hlt := hback i _ ho e he
            have := ih e.on hlt (by omega)
            have h2 : listed.getD e.on false = true := by
              have hs := h.size
              simp [Array.getD, hs, show e.on < ops.size by omega] at this ⊢
              exact this
            rw [h2]
            simp
          rw [hr] at hm
          cases hm
    refine done a w ⟨by simp, h.defers, h.tmps, h.off, h.bel, fun i hi _ => h.on i hi (all i hi)⟩
  intro fuel
  induction fuel with
  | zero =>
    intro listed a w hf h
    have hn : ((List.range ops.size).filter fun i => !listed.getD i true) = [] := List.eq_nil_of_length_eq_zero (by omega)
    have hr : Region.ready .any ops listed = [] := by
      unfold Region.ready
      refine List.filter_eq_nil_iff.2 fun i hi => ?_
      have := List.filter_eq_nil_iff.1 hn i hi
      simp at this
      simp [this]
    exact ⟨hr, full _ _ _ h hr⟩
  | succ fuel ih =>
    intro listed a w hf h
    refine ⟨full _ _ _ h, fun i hi => ?_⟩
    have him := List.mem_filter.1 hi
    have hlt := List.mem_range.1 him.1
    have ho : ops[i]? = some ops[i] := Array.getElem?_eq_getElem hlt
    have hc := him.2
    rw [ho] at hc
    simp only [Bool.and_eq_true, Option.map_some, Option.getD_some, Bool.not_eq_true', Array.all_eq_true_iff_forall_mem, Bool.or_eq_true] at hc
    obtain ⟨hnl, hafter⟩ := hc
    refine owes i _ ho a w _ h.bel h.off (fun e he hb => ?_) (fun v w' hp hb => ?_)
    · have hj := hback i _ ho e he
      have := hafter e he
      rw [hb] at this
      simp at this
      refine h.on e.on (by omega) ?_
      have hs := h.size
      simp [Array.getD, hs, show e.on < ops.size by omega] at this ⊢
      exact this
    · refine ih _ _ _ ?_ ⟨by simp [h.size], ?_, ?_, ?_, ?_, ?_⟩
      · have hs := h.size
        have := cnt_lt (fun j => !listed.getD j true) (fun j => !(listed.setIfInBounds i true).getD j true) (fun x hx => ?_) i (by simpa using hnl) (by simp [Array.getD, hs, hlt]) _ (List.mem_range.2 hlt)
        · omega
        · by_cases e : x = i
          · subst e
            simp [Array.getD, hs, hlt] at hx
          · by_cases hb : x < ops.size
            · simp [Array.getD, hs, hb, Array.getElem_setIfInBounds, show ¬ i = x from fun y => e y.symm] at hx ⊢
              exact hx
            · simp [Array.getD, hs, hb] at hx
      · rw [hdst i _ ho]
        exact h.defers
      · rw [hdst i _ ho]
        simp [Act.put, h.tmps]
      · intro t ht
        rw [hdst i _ ho, sl_put_other _ _ _ _ (fun e => ht i hlt e.symm)]
        exact h.off t ht
      · exact h.bel.trans (hb.mono h.bel.size)
      · intro j hj hjl
        rw [hdst i _ ho]
        by_cases e : j = i
        · subst e
          rw [sl_put_same _ _ _ (by rw [h.tmps]; exact hin _ hlt)]
          exact hp
        · rw [sl_put_other _ _ _ _ (fun x => e (hinj j i hj hlt x))]
          refine stays j _ _ _ (h.on j hj ?_) hb
          have hs := h.size
          simp [Array.getD, hs, hj, Array.getElem_setIfInBounds, show ¬ i = j from fun x => e x.symm] at hjl ⊢
          exact hjl

/-- The frame behind the region: v i in the slot that operation i writes. -/
def fr (ds : List Nat) (v : Nat → Value) (a0 : Act) : Act := ⟨((List.range a0.tmps.size).map fun t => if ds.contains t then v (ds.idxOf t) else sl a0 t).toArray, a0.defers⟩
theorem Act.eq_of (a b : Act) (hs : a.tmps.size = b.tmps.size) (ht : ∀ t, t < a.tmps.size → sl a t = sl b t) (hd : a.defers = b.defers) : a = b := by
  obtain ⟨x, y⟩ := a
  obtain ⟨x', y'⟩ := b
  cases hd
  congr 1
  refine Array.ext hs fun t h1 h2 => ?_
  have := ht t h1
  simpa [sl, Array.getD, h1, h2] using this

theorem region_inv {id : Nat} (ds : List Nat) (post : Nat → Value → World → Prop) (a0 : Act) (w0 : World) (hm : P.follows .mixedOrders = true)
    (hlen : ds.length = ops.size) (hdst : ∀ (i : Nat) (o : Oper), ops[i]? = some o → o.dst = some (ds.getD i 0)) (hnd : ds.Nodup) (hin : ∀ d ∈ ds, d < a0.tmps.size)
    (hback : ∀ (i : Nat) (o : Oper), ops[i]? = some o → ∀ e ∈ o.after, e.on < i)
    (stays : ∀ i v w w', post i v w → Below w.heap.size w w' → post i v w')
    (owes : ∀ (i : Nat) (o : Oper), ops[i]? = some o → Owes P ops Q (fun i => ds.getD i 0) post a0 w0.drew i o)
    (done : ∀ (v : Nat → Value) (w : World), (∀ i, i < ops.size → post i (v i) w) → Below w0.heap.size w0 w → Q .normal (fr ds v a0) w) :
    (Code.region id ops true).wp P Q a0 w0 := by
  have hg : ∀ i (h : i < ds.length), ds.getD i 0 = ds[i] := fun i h => by simp [List.getD, h]
  refine wp_region_any hm (any_inv (fun i => ds.getD i 0) post a0 w0.drew hdst (fun i j hi hj e => ?_) (fun i hi => ?_) hback stays owes (fun a w h => ?_) ops.size _ _ _ ?_ ⟨by simp, rfl, rfl, fun _ _ => rfl, Below.refl _ _, fun i hi hl => ?_⟩)
  · rw [hg i (by omega), hg j (by omega)] at e
    exact (List.getElem_inj hnd).1 e
  · rw [hg i (by omega)]
    exact hin _ (List.getElem_mem _)
  · have e : a = fr ds (fun i => sl a (ds.getD i 0)) a0 := by
      refine Act.eq_of _ _ (by simp [fr, h.tmps]) (fun t ht => ?_) h.defers
      rw [h.tmps] at ht
      have hr : sl (fr ds (fun i => sl a (ds.getD i 0)) a0) t = if ds.contains t then sl a (ds.getD (ds.idxOf t) 0) else sl a0 t := by
        simp [sl, fr, Array.getD, ht]
      rw [hr]
      by_cases hc : t ∈ ds
      · rw [if_pos (by simpa using hc), hg _ (List.idxOf_lt_length_of_mem hc), List.getElem_idxOf]
      · rw [if_neg (by simpa using hc)]
        refine h.off t fun i hi e => hc ?_
        have e' : ds.getD i 0 = t := e
        rw [hg i (by omega)] at e'
        rw [← e']
        exact List.getElem_mem _
    rw [e]
    exact done _ w (fun i hi => h.on i hi (by simp [Array.getD, hi])) ((Below.refl w0.heap.size w0).drew.trans (show Below w0.heap.size w0.drew w from h.bel))
  · exact Nat.le_trans (List.length_filter_le _ _) (by simp)
  · simp [Array.getD, hi] at hl

theorem wpOp_plain {i : Nat} {o : Oper} {a : Act} {w : World} {K : Act → World → Prop} (ho : ops[i]? = some o) (hg : o.guard = none) (h : o.wp P a w K Q) : wpOp P ops Q i K a w := by
  unfold wpOp
  rw [ho]
  simp only [Region.wanted, hg, if_true]
  exact .inl h
theorem wp_value {o : Oper} {a : Act} {w w' : World} {v : Value} {K : Act → World → Prop} (h : (execOp a.eval o).run P w = .ok (.value v) w') (hk : K (a.put o.dst v) w') : o.wp P a w K Q := by
  unfold Oper.wp
  rw [h]
  exact hk
end
section
variable {P : Program} {ρ : Operand → Value} {d : Option Tmp} {ty : TypeId} {pos : String} {after : Array Edge} {g : Option (Nat × Bool)} {w w' : World} {x : Value}
theorem ex_make {t : TypeId} {l c : Operand} (h : (Instr.makeSlice t (ρ l) (ρ c)).run P w = .ok x w') : (execOp ρ ⟨d, .makeSlice t l c, ty, pos, after, g⟩).run P w = .ok (.value x) w' := by
  simp [execOp, h]
theorem ex_box {t : TypeId} {y : Operand} (h : (Instr.box t (ρ y)).run P w = .ok x w') : (execOp ρ ⟨d, .box t y, ty, pos, after, g⟩).run P w = .ok (.value x) w' := by
  simp [execOp, h]
theorem ex_build {t : TypeId} {ps : Array (Nat × Operand)} {vs : Array (Nat × Value)} (hp : (ps.map fun (i, x) => (i, ρ x)) = vs) (h : (Instr.build t vs).run P w = .ok x w') : (execOp ρ ⟨d, .build t ps, ty, pos, after, g⟩).run P w = .ok (.value x) w' := by
  subst hp
  simp [execOp, h]
theorem ex_map {t : TypeId} : (execOp ρ ⟨d, .makeMap t none, ty, pos, after, g⟩).run P w = .ok (.value (.map (some w.heap.size))) (w.alloc (.map #[] 0)) := by
  have h : (Instr.makeMap t none).run P w = .ok (.map (some w.heap.size)) (w.alloc (.map #[] 0)) := rfl
  simp [execOp, h]
theorem wp_call {Q : Exit → Act → World → Prop} {a : Act} {K : Act → World → Prop} {f : FuncId} {args : Array Operand} {ats : Array TypeId} {vs : Array Value} {R : Ending → World → Prop}
    (hr : (execOp a.eval ⟨d, .call ⟨.value (.func f), args, ats⟩, ty, pos, after, g⟩).run P w = .ok (.enter f vs) w) (h : Calls P f vs w R)
    (hR : ∀ e w', R e w' → ∃ v, e = .returned v ∧ K (a.put d v) w') : (Oper.mk d (.call ⟨.value (.func f), args, ats⟩) ty pos after g).wp P a w K Q := by
  unfold Oper.wp
  rw [hr]
  refine h.mono fun e w' he => ?_
  obtain ⟨v, rfl, hk⟩ := hR e w' he
  exact hk
end
theorem run_make_rowN {P : Program} (t e : TypeId) (i : TypeInfo) (z : Value) (ht : P.underlying t = some (.slice e)) (hi : P.info? e = some i) (hz : i.zero = some z)
    (kl kc : IntKind) (n c : Nat) (hnc : n ≤ c) (hbytes : i.bytes * c ≤ 281474976710656) (h63 : c ≤ 9223372036854775807) (w : World) :
    (Instr.makeSlice t (.int kl (n : Int)) (.int kc (c : Int))).run P w = .ok (.slice (some ⟨w.heap.size, 0, none⟩) n c) (w.alloc (.cells (madeCells z.cells (c * i.size)) e)) := by
  have hb : (i.bytes : Int) * (c : Int) ≤ 281474976710656 := by
    have h : ((i.bytes * c : Nat) : Int) ≤ 281474976710656 := by omega
    rwa [Int.natCast_mul] at h
  have hr := run_make (P := P) w t e i z ht hi hz kl kc n c (by omega) (by omega) hb (by omega)
  simp only [Int.toNat_natCast] at hr
  exact hr
theorem mk0 {P : Program} (t e : TypeId) (c : Nat) (ht : P.underlying t = some (.slice e)) (hi : (match P.info? e with | some i => i.zero.isSome && decide (i.bytes * c ≤ 281474976710656) | none => false) = true) (hc : c ≤ 1048576) :
    ∃ o, ∀ w, (Instr.makeSlice t (.int .i64 0) (.int .i64 (c : Int))).run P w = .ok (.slice (some ⟨w.heap.size, 0, none⟩) 0 c) (w.alloc o) := by
  cases h : P.info? e with
  | none => rw [h] at hi; cases hi
  | some i =>
    rw [h] at hi
    simp only [Bool.and_eq_true, decide_eq_true_eq] at hi
    obtain ⟨z, hz⟩ := Option.isSome_iff_exists.1 hi.1
    exact ⟨_, fun w => run_make_rowN t e i z ht h hz .i64 .i64 0 c (by omega) hi.2 (by omega) w⟩
end Go.Proofs.YticnfohoddlolaaFmt.inv
