/- Rows that the call itself has made: what a contract says of a slice that it hands back. -/
import Derived.Test.YticnfohoddlolaaFmtBase
import Derived.Deep.OwnRows
import Derived.Laws.AppendOwn
import Derived.OneCell
namespace Go.Proofs.YticnfohoddlolaaFmt
open Go.ChangeShapes Go.WideShapes Go.ChangeAt Go.RowKit
set_option linter.unusedVariables false

theorem ret_slice {a b : Option Addr} {l c l' c' : Nat} (h : a = b) (h1 : l = l') (h2 : c = c') : Ending.returned (.slice a l c) = .returned (.slice b l' c') := by rw [h, h1, h2]

/-- The slice's address a leads to n cells of type T of the call's own, from block B on; cell i holds f i. -/
def Got (B : Nat) (w : World) (a : Option Addr) (T : TypeId) (n : Nat) (f : Nat → Value) : Prop :=
  (a = none ∧ n = 0) ∨ ∃ b, a = some ⟨b, 0, none⟩ ∧ B ≤ b ∧ w.rowIs b T n f

theorem rowIs_below {B : Nat} {w w' : World} (h : Below B w w') {b : Nat} {T : TypeId} {n : Nat} {f : Nat → Value} (hb : b < B) (hr : w.rowIs b T n f) : w'.rowIs b T n f := hr.of_block (h.block b hb)

/-- What a copying call hands back: a slice of the call's own with the same elements; nothing that was there has changed. -/
def Copied (w : World) (T : TypeId) (n : Nat) (f : Nat → Value) (e : Ending) (w' : World) : Prop :=
  ∃ a : Option Addr, e = .returned (.slice a n n) ∧ Got w.heap.size w' a T n f ∧ Below w.heap.size w w'

/-- A callee that leaves the world as it is, inside a region that draws. -/
theorem quietL {P : Program} {f : FuncId} {xs : Array Value} {w : World} {n : Nat} {v : Value} (h : Calls P f xs (w.drewN n) fun e w1 => e = .returned v ∧ w.drewN n = w1) :
    Calls P f xs (w.drewN n) fun e w2 => e = .returned v ∧ ∃ m, w2 = w.drewN m := by
  refine h.mono ?_
  rintro e w1 ⟨he, rfl⟩
  exact ⟨he, n, rfl⟩
theorem quietL2 {P : Program} {f : FuncId} {xs : Array Value} {w : World} {a n : Nat} {v : Value} (h : Calls P f xs (w.drewN (a + n)) fun e w1 => e = .returned v ∧ w.drewN (a + n) = w1) :
    Calls P f xs (w.drewN (a + n)) fun e w2 => e = .returned v ∧ ∃ m, w2 = w.drewN (a + m) := by
  refine h.mono ?_
  rintro e w1 ⟨he, rfl⟩
  exact ⟨he, n, rfl⟩

theorem i64_bd {x : Int} (h : (Lit.int .i64 x).wf = true) : -9223372036854775808 ≤ x ∧ x ≤ 9223372036854775807 := by
  simpa [Lit.wf, IntKind.min, IntKind.max, IntKind.signed, IntKind.bits] using h

theorem row_step {α : Type} (mk : α → Value) (d : α) (zs : List α) (k j : Nat) (hk : k < zs.length) :
    (if j = k then mk zs[k] else mk (if j < k then zs.getD j d else d)) = mk (if j < k + 1 then zs.getD j d else d) := by
  by_cases h : j = k
  · subst h; simp [List.getD, hk]
  · rw [if_neg h]
    by_cases h2 : j < k
    · rw [if_pos h2, if_pos (by omega)]
    · rw [if_neg h2, if_neg (by omega)]

theorem got_row {α : Type} {mk : α → Value} {d : α} {B : Nat} {w : World} {a : Option Addr} {T : TypeId} {n : Nat} {zs : List α} (h : Got B w a T n (fun i => mk (zs.getD i d))) (hz : zs.length = n) (hn : n ≤ 1048576) : IsRow mk d w a n n zs := by
  refine ⟨hz, Nat.le_refl _, by unfold maxLen; omega, ?_, ?_⟩
  · rintro rfl
    rcases h with ⟨_, h⟩ | ⟨b, h, _⟩
    · exact h
    · cases h
  · intro h0
    rcases h with ⟨_, h⟩ | ⟨b, rfl, _, hr⟩
    · omega
    · exact ⟨b, 0, rfl, hr.lt, fun i hi => by simpa using hr.cell hi⟩

theorem row_below {α : Type} {mk : α → Value} {d : α} {w w' : World} {a : Option Addr} {n c : Nat} {zs : List α} (h : IsRow mk d w a n c zs) (hb : Below w.heap.size w w') : IsRow mk d w' a n c zs := by
  obtain ⟨h1, h2, h3, h4, h5⟩ := h
  refine ⟨h1, h2, h3, h4, fun h0 => ?_⟩
  obtain ⟨b, off, rfl, hlt, hc⟩ := h5 h0
  exact ⟨b, off, rfl, Nat.lt_of_lt_of_le hlt hb.size, fun i hi => (hb.cell (p := ⟨b, off + i, none⟩) hlt).trans (hc i hi)⟩

theorem got_below {B : Nat} {w w' : World} {a : Option Addr} {T : TypeId} {n : Nat} {f : Nat → Value} (h : Got B w a T n f) (hb : Below w.heap.size w w') : Got B w' a T n f := by
  rcases h with h | ⟨b, rfl, hB, hr⟩
  · exact .inl h
  · exact .inr ⟨b, rfl, hB, rowIs_below hb hr.lt hr⟩

/-- A slice of the call's own that is not empty. -/
theorem got_pos {B : Nat} {w : World} {a : Option Addr} {T : TypeId} {n : Nat} {f : Nat → Value} (h : Got B w a T n f) (hn : 0 < n) : ∃ b, a = some ⟨b, 0, none⟩ ∧ B ≤ b ∧ w.rowIs b T n f := by
  rcases h with ⟨_, h⟩ | h
  · omega
  · exact h

theorem bel_trans {B : Nat} {w w1 w2 : World} (h : Below B w w1) (k : Below w1.heap.size w1 w2) (hB : B ≤ w1.heap.size) : Below B w w2 := h.trans (k.mono hB)

/-- A store into a row that reads as a list. -/
theorem row_store {α : Type} {mk : α → Value} {d : α} {w : World} {k : Nat} {T : TypeId} {n : Nat} {zs : List α} (h : w.rowIs k T n (fun i => mk (zs.getD i d))) (p : Nat) (y : α) (hz : zs.length = n) (hp : p < n) :
    (w.setCell ⟨k, p, none⟩ (mk y)).rowIs k T n (fun i => mk ((zs.set p y).getD i d)) := by
  refine (h.set p (mk y)).congr fun i hi => ?_
  show (if i = p then mk y else mk (zs.getD i d)) = mk ((zs.set p y).getD i d)
  by_cases e : i = p
  · subst e
    rw [if_pos rfl]
    congr 1
    simp [List.getD, hz, hi]
  · rw [if_neg e]
    congr 1
    simp [List.getD, List.getElem?_set_ne (Ne.symm e)]

/-- The cells of a struct of three. -/
def st3 (x y z : Value) : Nat → Value
  | 0 => x
  | 1 => y
  | _ => z

theorem st3_alloc (w : World) (x y z : Value) (T : TypeId) : (w.alloc (.cells #[x, y, z] T)).rowIs w.heap.size T 3 (st3 x y z) :=
  World.rowIs_alloc w #[x, y, z] T (st3 x y z) (fun i hi => by
    match i, hi with
    | 0, _ => rfl
    | 1, _ => rfl
    | 2, _ => rfl)

theorem Copied.pos {w w' : World} {T : TypeId} {n : Nat} {f : Nat → Value} {e : Ending} (h : Copied w T n f e w') (hn : 0 < n) :
    ∃ k, e = .returned (.slice (some ⟨k, 0, none⟩) n n) ∧ w.heap.size ≤ k ∧ k < w'.heap.size ∧ w'.rowIs k T n f ∧ Below w.heap.size w w' := by
  obtain ⟨a, he, hg, hb⟩ := h
  obtain ⟨k, rfl, hB, hr⟩ := got_pos hg hn
  exact ⟨k, he, hB, hr.lt, hr, hb⟩

theorem rowIs_row {α : Type} {mk : α → Value} {d : α} {w : World} {k : Nat} {T : TypeId} {n : Nat} {zs : List α} (h : w.rowIs k T n (fun i => mk (zs.getD i d))) (hz : zs.length = n) (hn : n ≤ 1048576) : IsRow mk d w (some ⟨k, 0, none⟩) n n zs :=
  got_row (B := 0) (.inr ⟨k, rfl, Nat.zero_le _, h⟩) hz hn

theorem st3_set0 {w : World} {c T : Nat} {x y z : Value} (h : w.rowIs c T 3 (st3 x y z)) (v : Value) : (w.setCell ⟨c, 0, none⟩ v).rowIs c T 3 (st3 v y z) :=
  (h.set 0 v).congr fun i hi => by
    match i, hi with
    | 0, _ => rfl
    | 1, _ => rfl
    | 2, _ => rfl
theorem st3_set1 {w : World} {c T : Nat} {x y z : Value} (h : w.rowIs c T 3 (st3 x y z)) (v : Value) : (w.setCell ⟨c, 1, none⟩ v).rowIs c T 3 (st3 x v z) :=
  (h.set 1 v).congr fun i hi => by
    match i, hi with
    | 0, _ => rfl
    | 1, _ => rfl
    | 2, _ => rfl
theorem st3_set2 {w : World} {c T : Nat} {x y z : Value} (h : w.rowIs c T 3 (st3 x y z)) (v : Value) : (w.setCell ⟨c, 2, none⟩ v).rowIs c T 3 (st3 x y v) :=
  (h.set 2 v).congr fun i hi => by
    match i, hi with
    | 0, _ => rfl
    | 1, _ => rfl
    | 2, _ => rfl
theorem size_setC (w : World) (a : Addr) (v : Value) : (w.setCell a v).heap.size = w.heap.size := by simp [World.setCell]

/-- The address, if there is one, lies in a block from lo on and below hi. -/
def Rng (a : Option Addr) (lo hi : Nat) : Prop := ∀ x, a = some x → lo ≤ x.block ∧ x.block < hi

theorem Copied.rng {w w' : World} {T : TypeId} {n : Nat} {f : Nat → Value} {e : Ending} (h : Copied w T n f e w') :
    ∃ a, e = .returned (.slice a n n) ∧ Got w.heap.size w' a T n f ∧ Rng a w.heap.size w'.heap.size ∧ Below w.heap.size w w' := by
  obtain ⟨a, he, hg, hb⟩ := h
  refine ⟨a, he, hg, ?_, hb⟩
  intro x hx
  rcases hg with ⟨h, _⟩ | ⟨k, h, hB, hr⟩
  · rw [h] at hx; cases hx
  · rw [h] at hx; cases hx; exact ⟨hB, hr.lt⟩

theorem rng_ne {a b : Option Addr} {lo hi lo' hi' n m : Nat} (h : Rng a lo hi) (h' : Rng b lo' hi') (hd : hi ≤ lo' ∨ hi' ≤ lo) : ∀ x, a = some x → some x.block ≠ (Value.slice b n m).ownBlock := by
  intro x hx e
  obtain ⟨h1, h2⟩ := h x hx
  cases b with
  | none => simp [Value.ownBlock] at e
  | some y =>
    obtain ⟨h3, h4⟩ := h' y rfl
    simp [Value.ownBlock] at e
    omega

theorem own_of_got {α : Type} {mk : α → Value} {d : α} {B B' : Nat} {w : World} {a : Option Addr} {T : TypeId} {n : Nat} {zs : List α} (h : Got B' w a T n (fun i => mk (zs.getD i d))) (hz : zs.length = n) (hn : n ≤ 1048576) (hB : B ≤ B') :
    w.ownsRow B T 1 (.slice a n n) n (zs.map mk) := by
  refine ⟨by simp [hz], ?_⟩
  rcases h with ⟨rfl, rfl⟩ | ⟨k, rfl, hk, cs, hc, hs, hv⟩
  · exact .inl ⟨rfl, rfl⟩
  · refine .inr ⟨k, n, cs, rfl, by omega, hc, Nat.le_refl _, by unfold maxLen; omega, by omega, ?_⟩
    apply List.ext_getElem?
    intro i
    by_cases hi : i < n
    · rw [List.getElem?_take, if_pos (by omega)]
      have := hv i hi
      rw [← Array.getElem?_toList] at this
      rw [this]
      simp [List.getD, hz, hi]
    · rw [List.getElem?_eq_none (by simp; omega), List.getElem?_eq_none (by simp; omega)]

theorem row_of_own {α : Type} {mk : α → Value} {d : α} {B : Nat} {w : World} {a : Option Addr} {T : TypeId} {n c : Nat} {zs : List α} (h : w.ownsRow B T 1 (.slice a n c) n (zs.map mk)) : IsRow mk d w a n c zs := by
  have hz : zs.length = n := by have := h.1; simpa using this
  obtain ⟨_, h2⟩ := h
  rcases h2 with ⟨h3, h4⟩ | ⟨g, cap, cur, h3, _, hh, hnc, hcm, hs, ht⟩
  · simp at h3
    obtain ⟨rfl, rfl, rfl⟩ := h3
    exact ⟨hz, by omega, by unfold maxLen; omega, fun _ => rfl, fun h => by omega⟩
  · simp at h3
    obtain ⟨rfl, rfl⟩ := h3
    refine ⟨hz, hnc, hcm, (fun h => by cases h), fun h0 => ⟨g, 0, rfl, lt_of_block hh, fun i hi => ?_⟩⟩
    have e : (cur.toList.take (n * 1))[i]? = (zs.map mk)[i]? := by rw [ht]
    rw [List.getElem?_take, if_pos (by omega), Array.getElem?_toList] at e
    simp [World.cell?, hh, e, List.getD, hz, hi]

theorem got_alloc {B : Nat} {w : World} {a : Option Addr} {T : TypeId} {n : Nat} {f : Nat → Value} (h : Got B w a T n f) (o : Obj) : Got B (w.alloc o) a T n f := by
  rcases h with h | ⟨b, rfl, hB, hr⟩
  · exact .inl h
  · exact .inr ⟨b, rfl, hB, hr.alloc o⟩

/-- A row stays where its block is as it was. -/
theorem got_of {B : Nat} {w w' : World} {a : Option Addr} {T : TypeId} {n : Nat} {f : Nat → Value} (h : Got B w a T n f) (hk : ∀ x, a = some x → x.block < w.heap.size → w'.heap[x.block]? = w.heap[x.block]?) : Got B w' a T n f := by
  rcases h with h | ⟨b, rfl, hB, hr⟩
  · exact .inl h
  · exact .inr ⟨b, rfl, hB, hr.of_block (hk _ rfl hr.lt)⟩

/-- The cell of a row of the call's own. -/
theorem row_cell {α : Type} {mk : α → Value} {d : α} {w : World} {k n c : Nat} {zs : List α} (h : IsRow mk d w (some ⟨k, 0, none⟩) n c zs) {i : Nat} (hi : i < n) : w.cell? ⟨k, i, none⟩ = some (mk (zs.getD i d)) := by
  obtain ⟨b, off, e, _, hc⟩ := h.2.2.2.2 (by omega)
  simp at e
  obtain ⟨rfl, rfl⟩ := e
  simpa using hc i hi
theorem row_some {α : Type} {mk : α → Value} {d : α} {w : World} {a : Option Addr} {n c : Nat} {zs : List α} (h : IsRow mk d w a n c zs) (h0 : 0 < n) : ∃ b off, a = some ⟨b, off, none⟩ ∧ b < w.heap.size ∧ ∀ i, i < n → w.cell? ⟨b, off + i, none⟩ = some (mk (zs.getD i d)) := h.2.2.2.2 h0
theorem bel_alike {w w1 w2 : World} {B : Nat} (h : Below B w w1) (hs : w1.heap.size ≤ w2.heap.size) (ho : w2.os = w1.os) (ht : w2.tape = w1.tape) (hu : w2.output = w1.output) (hb : ∀ k, k < B → w2.heap[k]? = w1.heap[k]?) : Below B w w2 :=
  h.trans ⟨ho, ht, hu, hs, hb⟩

theorem own_rng {b : Option Addr} {lo hi n m x : Nat} (h : Rng b lo hi) (e : (Value.slice b n m).ownBlock = some x) : lo ≤ x ∧ x < hi := by
  cases b with
  | none => simp [Value.ownBlock] at e
  | some y =>
    simp [Value.ownBlock] at e
    subst e
    exact h y rfl
theorem ne_own {k x n m : Nat} (h : k ≠ x) : some k ≠ (Value.slice (some ⟨x, 0, none⟩) n m).ownBlock := by
  simpa [Value.ownBlock] using h
theorem ne_rng {b : Option Addr} {lo hi n m k : Nat} (h : Rng b lo hi) (hk : k < lo ∨ hi ≤ k) : some k ≠ (Value.slice b n m).ownBlock := by
  intro e
  have := own_rng h e.symm
  omega
theorem row_keep {α : Type} {mk : α → Value} {d : α} {w w' : World} {x n c : Nat} {zs : List α} (h : IsRow mk d w (some ⟨x, 0, none⟩) n c zs) (hs : w.heap.size ≤ w'.heap.size) (hk : w'.heap[x]? = w.heap[x]?) : IsRow mk d w' (some ⟨x, 0, none⟩) n c zs := by
  refine ⟨h.1, h.2.1, h.2.2.1, h.2.2.2.1, fun h0 => ?_⟩
  obtain ⟨b, off, e, hb, hc⟩ := h.2.2.2.2 h0
  simp at e
  obtain ⟨rfl, rfl⟩ := e
  exact ⟨x, 0, rfl, by omega, fun i hi => (World.cell?_of_block (a := ⟨x, 0 + i, none⟩) hk).trans (hc i hi)⟩
end Go.Proofs.YticnfohoddlolaaFmt
