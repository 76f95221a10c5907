/- A region that draws its order: operations that only lay new memory, and one last operation that comes behind them all (a store). -/
import Derived.Test.YtpkolfmdockdnaaFmtInv
namespace Go.Proofs.YtpkolfmdockdnaaFmt.inv
open Go.ChangeShapes Go.WideShapes Go.ChangeAt Go.RowKit
set_option linter.unusedVariables false

section
variable {P : Program} {ops : Array Oper} {Q : Exit → Act → World → Prop}

structure Inv2 (m : Nat) (ops : Array Oper) (dst : Nat → Nat) (post : Nat → Value → World → Prop) (a0 : Act) (w0 : World) (listed : Array Bool) (a : Act) (w : World) : Prop where
  size : listed.size = ops.size
  last : listed.getD m true = false
  defers : a.defers = a0.defers
  tmps : a.tmps.size = a0.tmps.size
  off : ∀ t, (∀ i, i < m → dst i ≠ t) → sl a t = sl a0 t
  bel : Below w0.heap.size w0 w
  on : ∀ i, i < m → listed.getD i true = true → post i (sl a (dst i)) w
  closed : ∀ i, i < m → listed.getD i true = true → ∀ o, ops[i]? = some o → ∀ e ∈ o.after, Region.binds .any e = true → listed.getD e.on true = true

def Owes2 (m : Nat) (P : Program) (ops : Array Oper) (Q : Exit → Act → World → Prop) (dst : Nat → Nat) (post : Nat → Value → World → Prop) (a0 : Act) (w0 : World) (i : Nat) (o : Oper) : Prop :=
  ∀ (a : Act) (w : World) (K : Act → World → Prop), Below w0.heap.size w0 w → (∀ t, (∀ j, j < m → dst j ≠ t) → sl a t = sl a0 t) →
    (∀ e ∈ o.after, Region.binds .any e = true → post e.on (sl a (dst e.on)) w) →
    (∀ v w', post i v w' → Below w.heap.size w w' → K (a.put o.dst v) w') → wpOp P ops Q i K a w

theorem full_any (fuel : Nat) (listed : Array Bool) (a : Act) (w : World) (h : ∀ i, i < ops.size → listed.getD i true = true) (q : Q .normal a w) : wpAny P .any ops Q fuel listed a w := by
  have hr : Region.ready .any ops listed = [] := by
    unfold Region.ready
    refine List.filter_eq_nil_iff.2 fun i hi => ?_
    simp [h i (List.mem_range.1 hi)]
  cases fuel with
  | zero => exact ⟨hr, q⟩
  | succ n => exact ⟨fun _ => q, fun i hi => by rw [hr] at hi; cases hi⟩

theorem any_inv2 (m : Nat) (hm : ops.size = m + 1) (dst : Nat → Nat) (post : Nat → Value → World → Prop) (a0 : Act) (w0 : World)
    (hdst : ∀ (i : Nat) (o : Oper), i < m → ops[i]? = some o → o.dst = some (dst i)) (hinj : ∀ i j, i < m → j < m → dst i = dst j → i = j) (hin : ∀ i, i < m → dst i < a0.tmps.size)
    (hback : ∀ (i : Nat) (o : Oper), ops[i]? = some o → ∀ e ∈ o.after, e.on < i)
    (stays : ∀ i v w w', post i v w → Below w.heap.size w w' → post i v w')
    (owes : ∀ (i : Nat) (o : Oper), i < m → ops[i]? = some o → Owes2 m P ops Q dst post a0 w0 i o)
    (hcov : ∀ L : Nat → Prop, (∀ i o, i < m → ops[i]? = some o → L i → ∀ e ∈ o.after, Region.binds .any e = true → L e.on) → (∀ o, ops[m]? = some o → ∀ e ∈ o.after, Region.binds .any e = true → L e.on) → ∀ j, j < m → L j)
    (done : ∀ a w (K : Act → World → Prop), a.defers = a0.defers → a.tmps.size = a0.tmps.size → (∀ t, (∀ i, i < m → dst i ≠ t) → sl a t = sl a0 t) → Below w0.heap.size w0 w → (∀ i, i < m → post i (sl a (dst i)) w) → (∀ a' w', Q .normal a' w' → K a' w') → wpOp P ops Q m K a w) :
    ∀ (fuel : Nat) (listed : Array Bool) (a : Act) (w : World),
      ((List.range ops.size).filter fun i => !listed.getD i true).length ≤ fuel → Inv2 m ops dst post a0 w0 listed a w → wpAny P .any ops Q fuel listed a w := by
  have full : ∀ (listed : Array Bool) (a : Act) (w : World), Inv2 m ops dst post a0 w0 listed a w → Region.ready .any ops listed = [] → False := by
    intro listed a w h hr
    have all : ∀ i, i < ops.size → listed.getD i true = true := by
      intro i
      induction i using Nat.strongRecOn with
      | _ i ih =>
        intro hi
        cases hl : listed.getD i true with
        | true => rfl
        | false =>
          exfalso
          have hm : i ∈ Region.ready .any ops listed := by
            unfold Region.ready
            refine List.mem_filter.2 ⟨List.mem_range.2 hi, ?_⟩
            have ho : ops[i]? = some ops[i] := Array.getElem?_eq_getElem hi
            rw [hl, ho]
            simp only [Bool.not_false, Bool.true_and, Option.map_some, Option.getD_some]
            rw [Array.all_eq_true_iff_forall_mem]
            intro e he
            have hlt := hback i _ ho e he
            have := ih e.on hlt (by omega)
            have h2 : listed.getD e.on false = true := by
              have hs := h.size
              simp [Array.getD, hs, show e.on < ops.size by omega] at this ⊢
              exact this
            rw [h2]
            simp
          rw [hr] at hm
          cases hm
    have := all m (by omega)
    rw [h.last] at this
    cases this
  intro fuel
  induction fuel with
  | zero =>
    intro listed a w hf h
    have hn : ((List.range ops.size).filter fun i => !listed.getD i true) = [] := List.eq_nil_of_length_eq_zero (by omega)
    have hr : Region.ready .any ops listed = [] := by
      unfold Region.ready
      refine List.filter_eq_nil_iff.2 fun i hi => ?_
      have := List.filter_eq_nil_iff.1 hn i hi
      simp at this
      simp [this]
    exact (full _ _ _ h hr).elim
  | succ fuel ih =>
    intro listed a w hf h
    refine ⟨fun hr => (full _ _ _ h hr).elim, fun i hi => ?_⟩
    have him := List.mem_filter.1 hi
    have hlt := List.mem_range.1 him.1
    have ho : ops[i]? = some ops[i] := Array.getElem?_eq_getElem hlt
    have hc := him.2
    rw [ho] at hc
    simp only [Bool.and_eq_true, Option.map_some, Option.getD_some, Bool.not_eq_true', Array.all_eq_true_iff_forall_mem, Bool.or_eq_true] at hc
    obtain ⟨hnl, hafter⟩ := hc
    have hon : ∀ e ∈ ops[i].after, Region.binds .any e = true → listed.getD e.on true = true := fun e he hb => by
      have hj := hback i _ ho e he
      have := hafter e he
      rw [hb] at this
      simp at this
      have hs := h.size
      simp [Array.getD, hs, show e.on < ops.size by omega] at this ⊢
      exact this
    by_cases hL : i = m
    · subst hL
      have hall : ∀ j, j < i → listed.getD j true = true := hcov (fun j => listed.getD j true = true) (fun j o hj hjo hl e he hb => h.closed j hj hl o hjo e he hb) (fun o hoo e he hb => by
        rw [ho] at hoo
        cases hoo
        exact hon e he hb)
      refine done a w _ h.defers h.tmps h.off h.bel (fun j hj => h.on j hj (hall j hj)) fun a' w' q => full_any _ _ _ _ (fun j hj => ?_) q
      by_cases e : j = i
      · subst e
        have hs := h.size
        simp [Array.getD, hs, hj]
      · have := hall j (by omega)
        have hs := h.size
        simp [Array.getD, hs, hj, Array.getElem_setIfInBounds, show ¬ i = j from fun x => e x.symm] at this ⊢
        exact this
    · have him' : i < m := by omega
      refine owes i _ him' ho a w _ h.bel h.off (fun e he hb => ?_) (fun v w' hp hb => ?_)
      · have hj := hback i _ ho e he
        exact h.on e.on (by omega) (hon e he hb)
      · have hs := h.size
        refine ih _ _ _ ?_ ⟨by simp [h.size], ?_, ?_, ?_, ?_, ?_, ?_, ?_⟩
        · have := cnt_lt (fun j => !listed.getD j true) (fun j => !(listed.setIfInBounds i true).getD j true) (fun x hx => ?_) i (by simpa using hnl) (by simp [Array.getD, hs, hlt]) _ (List.mem_range.2 hlt)
          · omega
          · by_cases e : x = i
            · subst e
              simp [Array.getD, hs, hlt] at hx
            · by_cases hb : x < ops.size
              · simp [Array.getD, hs, hb, Array.getElem_setIfInBounds, show ¬ i = x from fun y => e y.symm] at hx ⊢
                exact hx
              · simp [Array.getD, hs, hb] at hx
        · have := h.last
          simp [Array.getD, hs, show m < ops.size by omega, Array.getElem_setIfInBounds, hL] at this ⊢
          exact this
        · rw [hdst i _ him' ho]
          exact h.defers
        · rw [hdst i _ him' ho]
          simp [Act.put, h.tmps]
        · intro t ht
          rw [hdst i _ him' ho, sl_put_other _ _ _ _ (fun e => ht i him' e.symm)]
          exact h.off t ht
        · exact h.bel.trans (hb.mono h.bel.size)
        · intro j hj hjl
          rw [hdst i _ him' ho]
          by_cases e : j = i
          · subst e
            rw [sl_put_same _ _ _ (by rw [h.tmps]; exact hin _ him')]
            exact hp
          · rw [sl_put_other _ _ _ _ (fun x => e (hinj j i hj him' x))]
            refine stays j _ _ _ (h.on j hj ?_) hb
            simp [Array.getD, hs, show j < ops.size by omega, Array.getElem_setIfInBounds, show ¬ i = j from fun x => e x.symm] at hjl ⊢
            exact hjl
        · intro j hj hjl o hjo e he hb2
          have up : ∀ x, x < ops.size → listed.getD x true = true → (listed.setIfInBounds i true).getD x true = true := fun x hx hxl => by
            by_cases ex : i = x
            · simp [Array.getD, hs, hx, Array.getElem_setIfInBounds, ex]
            · simp [Array.getD, hs, hx, Array.getElem_setIfInBounds, ex] at hxl ⊢
              exact hxl
          have hlt2 := hback j o hjo e he
          by_cases ej : j = i
          · subst ej
            rw [ho] at hjo
            cases hjo
            exact up _ (by omega) (hon e he hb2)
          · refine up _ (by omega) (h.closed j hj ?_ o hjo e he hb2)
            simp [Array.getD, hs, show j < ops.size by omega, Array.getElem_setIfInBounds, show ¬ i = j from fun x => ej x.symm] at hjl ⊢
            exact hjl

theorem region_inv2 {id : Nat} (m : Nat) (hsz : ops.size = m + 1) (ds : List Nat) (post : Nat → Value → World → Prop) (a0 : Act) (w0 : World) (hm : P.follows .mixedOrders = true)
    (hlen : ds.length = m) (hdst : ∀ (i : Nat) (o : Oper), i < m → ops[i]? = some o → o.dst = some (ds.getD i 0)) (hnd : ds.Nodup) (hin : ∀ d ∈ ds, d < a0.tmps.size)
    (hback : ∀ (i : Nat) (o : Oper), ops[i]? = some o → ∀ e ∈ o.after, e.on < i)
    (stays : ∀ i v w w', post i v w → Below w.heap.size w w' → post i v w')
    (owes : ∀ (i : Nat) (o : Oper), i < m → ops[i]? = some o → Owes2 m P ops Q (fun i => ds.getD i 0) post a0 w0.drew i o)
    (hcov : ∀ L : Nat → Prop, (∀ i o, i < m → ops[i]? = some o → L i → ∀ e ∈ o.after, Region.binds .any e = true → L e.on) → (∀ o, ops[m]? = some o → ∀ e ∈ o.after, Region.binds .any e = true → L e.on) → ∀ j, j < m → L j)
    (done : ∀ (v : Nat → Value) (w : World) (K : Act → World → Prop), (∀ i, i < m → post i (v i) w) → Below w0.heap.size w0 w → (∀ a' w', Q .normal a' w' → K a' w') → wpOp P ops Q m K (fr ds v a0) w) :
    (Code.region id ops true).wp P Q a0 w0 := by
  have hg : ∀ i (h : i < ds.length), ds.getD i 0 = ds[i] := fun i h => by simp [List.getD, h]
  refine wp_region_any hm (any_inv2 m hsz (fun i => ds.getD i 0) post a0 w0.drew hdst (fun i j hi hj e => ?_) (fun i hi => ?_) hback stays owes hcov (fun a w K hd ht ho hb hp hK => ?_) ops.size _ _ _ ?_ ⟨by simp, by simp [Array.getD, hsz], rfl, rfl, fun _ _ => rfl, Below.refl _ _, fun i hi hl => ?_, fun i hi hl => ?_⟩)
  · rw [hg i (by omega), hg j (by omega)] at e
    exact (List.getElem_inj hnd).1 e
  · rw [hg i (by omega)]
    exact hin _ (List.getElem_mem _)
  · have e : a = fr ds (fun i => sl a (ds.getD i 0)) a0 := by
      refine Act.eq_of _ _ (by simp [fr, ht]) (fun t htt => ?_) hd
      rw [ht] at htt
      have hr : sl (fr ds (fun i => sl a (ds.getD i 0)) a0) t = if ds.contains t then sl a (ds.getD (ds.idxOf t) 0) else sl a0 t := by
        simp [sl, fr, Array.getD, htt]
      rw [hr]
      by_cases hc : t ∈ ds
      · rw [if_pos (by simpa using hc), hg _ (List.idxOf_lt_length_of_mem hc), List.getElem_idxOf]
      · rw [if_neg (by simpa using hc)]
        refine ho t fun i hi e => hc ?_
        have e' : ds.getD i 0 = t := e
        rw [hg i (by omega)] at e'
        rw [← e']
        exact List.getElem_mem _
    rw [e]
    exact done _ w K hp ((Below.refl w0.heap.size w0).drew.trans (show Below w0.heap.size w0.drew w from hb)) hK
  · exact Nat.le_trans (List.length_filter_le _ _) (by simp)
  · simp [Array.getD, show i < ops.size by omega] at hl
  · simp [Array.getD, show i < ops.size by omega] at hl

theorem wp_skip {o : Oper} {a : Act} {w w' : World} {K : Act → World → Prop} (h : (execOp a.eval o).run P w = .ok .skip w') (hk : K (a.put o.dst undef) w') : o.wp P a w K Q := by
  unfold Oper.wp
  rw [h]
  exact hk
theorem ex_store {ρ : Operand → Value} {d : Option Tmp} {ty : TypeId} {pos : String} {after : Array Edge} {g : Option (Nat × Bool)} {w w' : World} {t : TypeId} {x y : Operand} (h : (Instr.storeAt t (ρ x) (ρ y)).run P w = .ok () w') : (execOp ρ ⟨d, .store t x y, ty, pos, after, g⟩).run P w = .ok .skip w' := by
  simp [execOp, h]
theorem ex_load {ρ : Operand → Value} {d : Option Tmp} {ty : TypeId} {pos : String} {after : Array Edge} {g : Option (Nat × Bool)} {w w' : World} {v : Value} {t : TypeId} {x : Operand} (h : (Instr.loadAt t (ρ x)).run P w = .ok v w') : (execOp ρ ⟨d, .load t x, ty, pos, after, g⟩).run P w = .ok (.value v) w' := by
  simp [execOp, h]
end
end Go.Proofs.YtpkolfmdockdnaaFmt.inv
