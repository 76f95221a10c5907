/- strBytes, the readers of a function context, and what an Add keeps of it. -/
import Derived.Test.YticnfohoddlolaaFmtClose
import Derived.Test.YticnfohoddlolaaFmtTot
namespace Go.Proofs.YticnfohoddlolaaFmt
open Go.ChangeShapes Go.WideShapes Go.ChangeAt Go.RowKit
set_option linter.unusedVariables false
set_option maxRecDepth 100000

theorem createv_bd (op a b c : Int) : 0 ≤ createv op a b c ∧ createv op a b c < 4294967296 := by unfold createv setCv setBv setAv setOpv; omega
theorem putAt_len {α : Type} (xs : List α) (n pc : Nat) (v : α) (h : xs.length = n) : (putAt xs n pc v).length = nAt n pc := by
  unfold putAt nAt
  split <;> simp [h]
theorem putAt_self {zs : List Int} {n pc : Nat} (v : Int) (h : zs.length = n) (hp : pc ≤ n) : (putAt zs n pc v).getD pc 0 = v := by
  unfold putAt
  split
  · simp [List.getD, List.getElem?_append_right, *]
  · simp [List.getD, show pc < zs.length by omega]
theorem putAt_other {zs : List Int} {n pc i : Nat} (v : Int) (h : zs.length = n) (hi : i < n) (hne : i ≠ pc) : (putAt zs n pc v).getD i 0 = zs.getD i 0 := by
  unfold putAt
  split
  · simp [List.getD, List.getElem?_append_left (show i < zs.length by omega)]
  · simp [List.getD, List.getElem?_set_ne (Ne.symm hne)]
theorem nAt_self (n : Nat) : nAt n n = n + 1 := by simp [nAt]
theorem made_got (w : World) (n : Nat) : Got w.heap.size (w.alloc (.cells (madeCells #[.int .i64 0] n) 3)) (some ⟨w.heap.size, 0, none⟩) 3 n (fun i => .int .i64 ((List.replicate n (0 : Int)).getD i 0)) :=
  .inr ⟨_, rfl, Nat.le_refl _, (World.rowIs_made w (.int .i64 0) n 3).congr (fun i hi => by simp [List.getD, hi])⟩
theorem own_ge {w : World} {B T : Nat} {v : Value} {n : Nat} {xs : List Value} (h : w.ownsRow B T 1 v n xs) {k : Nat} (hk : k < B) : v.ownBlock ≠ some k := by
  obtain ⟨_, ⟨rfl, _⟩ | ⟨g, cap, cur, rfl, hg, _⟩⟩ := h
  · simp [Value.ownBlock]
  · simp [Value.ownBlock]; omega
theorem own_ne_map {w : World} {B T : Nat} {v : Value} {n : Nat} {xs : List Value} (h : w.ownsRow B T 1 v n xs) {k : Nat} {es : Array MapEntry} {m : Nat} (hk : w.heap[k]? = some (.map es m)) : v.ownBlock ≠ some k := by
  obtain ⟨_, ⟨rfl, _⟩ | ⟨g, cap, cur, rfl, _, hh, _⟩⟩ := h
  · simp [Value.ownBlock]
  · simp [Value.ownBlock]
    rintro rfl
    rw [hh] at hk
    cases hk
theorem AddKept.bel {B c : Nat} {T T' : Nat} {v0 v1 : Value} {n n' : Nat} {xs ys : List Value} {w w' : World} (h : AddKept c v0.ownBlock v1.ownBlock w w') (h0 : w.ownsRow B T 1 v0 n xs) (h1 : w.ownsRow B T' 1 v1 n' ys) (hc : B ≤ c) (hB : B ≤ w.heap.size) : Below B w w' :=
  ⟨h.os, h.tape, h.output, h.size, fun k hk => h.block k (by omega) (by omega) (fun e => own_ge h0 hk e.symm) (fun e => own_ge h1 hk e.symm)⟩

theorem FC0.kept {w w' : World} {h : Nat} {ref : Bool} {po : Int} {an : Option Addr} {nn mn : Nat} {ai : Option Addr} {ni mi : Nat} {last : Int} {ad : Option Addr} {nd md : Nat} {blk : Nat} {rt : Int} (H : FC0 w h ref po an nn mn ai ni mi last ad nd md blk rt)
    {B : Nat} {v0 v1 : Value} {n n' : Nat} {xs ys : List Value} (h0 : w.ownsRow B 36 1 v0 n xs) (h1 : w.ownsRow B 3 1 v1 n' ys) (K : AddKept (h + 5) v0.ownBlock v1.ownBlock w w') : FC0 w' h ref po an nn mn ai ni mi last ad nd md blk rt := by
  have hl := H.fc.lt
  have go : ∀ k, k ≠ h + 5 → k < h + 10 → v0.ownBlock ≠ some k → v1.ownBlock ≠ some k → w'.heap[k]? = w.heap[k]? := fun k a b c d => K.block k (by omega) a (fun e => c e.symm) (fun e => d e.symm)
  exact ⟨H.pp.of_block (go _ (by omega) (by omega) (own_ne_row H.pp h0 (by decide)) (own_ne_row H.pp h1 (by decide))),
    H.bp.of_block (go _ (by omega) (by omega) (own_ne_row H.bp h0 (by decide)) (own_ne_row H.bp h1 (by decide))),
    H.pi.of_block (go _ (by omega) (by omega) (own_ne_row H.pi h0 (by decide)) (own_ne_row H.pi h1 (by decide))),
    H.bi.of_block (go _ (by omega) (by omega) (own_ne_row H.bi h0 (by decide)) (own_ne_row H.bi h1 (by decide))),
    H.pr.of_block (go _ (by omega) (by omega) (own_ne_row H.pr h0 (by decide)) (own_ne_row H.pr h1 (by decide))),
    H.bl.of_block (go _ (by omega) (by omega) (own_ne_row H.bl h0 (by decide)) (own_ne_row H.bl h1 (by decide))),
    (go _ (by omega) (by omega) (own_ne_map h0 H.m7) (own_ne_map h1 H.m7)).trans H.m7,
    (go _ (by omega) (by omega) (own_ne_map h0 H.m8) (own_ne_map h1 H.m8)).trans H.m8,
    H.fc.of_block (go _ (by omega) (by omega) (own_ne_row H.fc h0 (by decide)) (own_ne_row H.fc h1 (by decide)))⟩

section
variable {h : Nat} {ref : Bool} {po : Int} {an : Option Addr} {nn mn : Nat} {ai : Option Addr} {ni mi : Nat} {last : Int} {ad : Option Addr} {nd md : Nat} {blk : Nat} {rt : Int}
theorem codePC_any (v : Value) (w : World) (H : FC0 w h ref po an nn mn ai ni mi last ad nd md blk rt) (hc : w.cell? ⟨h + 5, 2, none⟩ = some v) :
    Calls Tryf.prog 17 #[.pointer (some ⟨h + 9, 0, none⟩)] w fun e w' => e = .returned v ∧ w = w' := by
  have c1 : w.cell? ⟨h + 9, 1, none⟩ = some (.pointer (some ⟨h + 5, 0, none⟩)) := H.fc.cell (i := 1) (by omega)
  go_enter Tryf.func17, Tryf.ntmps17
  go_wp2
  go_ret
  exact ⟨rfl, rfl⟩
theorem codeAt_c (h b n m i : Nat) (v : Value) (w : World) (c1 : w.cell? ⟨h + 9, 1, none⟩ = some (.pointer (some ⟨h + 5, 0, none⟩))) (hc : w.cell? ⟨h + 5, 0, none⟩ = some (.slice (some ⟨b, 0, none⟩) n m)) (hi' : (i : Int) < (n : Int)) (hv : w.cell? ⟨b, i, none⟩ = some v) :
    Calls Tryf.prog 18 #[.pointer (some ⟨h + 9, 0, none⟩), .int .i64 i] w fun e w' => e = .returned v ∧ w = w' := by
  go_enter Tryf.func18, Tryf.ntmps18
  go_wp2
  go_ret
  exact ⟨rfl, rfl⟩
theorem lineAt_c (h b n m i : Nat) (v : Value) (w : World) (c1 : w.cell? ⟨h + 9, 1, none⟩ = some (.pointer (some ⟨h + 5, 0, none⟩))) (hc : w.cell? ⟨h + 5, 1, none⟩ = some (.slice (some ⟨b, 0, none⟩) n m)) (hi' : (i : Int) < (n : Int)) (hv : w.cell? ⟨b, i, none⟩ = some v) : Calls Tryf.prog 19 #[.pointer (some ⟨h + 9, 0, none⟩), .int .i64 i] w fun e w' => e = .returned v ∧ w = w' := by
  go_enter Tryf.func19, Tryf.ntmps19
  go_wp2
  go_ret
  exact ⟨rfl, rfl⟩
theorem codeAt_any (b n m i : Nat) (v : Value) (w : World) (H : FC0 w h ref po an nn mn ai ni mi last ad nd md blk rt) (hc : w.cell? ⟨h + 5, 0, none⟩ = some (.slice (some ⟨b, 0, none⟩) n m)) (hi : i < n) (hv : w.cell? ⟨b, i, none⟩ = some v) :
    Calls Tryf.prog 18 #[.pointer (some ⟨h + 9, 0, none⟩), .int .i64 i] w fun e w' => e = .returned v ∧ w = w' := by
  have c1 : w.cell? ⟨h + 9, 1, none⟩ = some (.pointer (some ⟨h + 5, 0, none⟩)) := H.fc.cell (i := 1) (by omega)
  have hi' : (i : Int) < (n : Int) := by omega
  go_enter Tryf.func18, Tryf.ntmps18
  go_wp2
  go_ret
  exact ⟨rfl, rfl⟩
theorem lineAt_any (b n m i : Nat) (v : Value) (w : World) (H : FC0 w h ref po an nn mn ai ni mi last ad nd md blk rt) (hc : w.cell? ⟨h + 5, 1, none⟩ = some (.slice (some ⟨b, 0, none⟩) n m)) (hi : i < n) (hv : w.cell? ⟨b, i, none⟩ = some v) : Calls Tryf.prog 19 #[.pointer (some ⟨h + 9, 0, none⟩), .int .i64 i] w fun e w' => e = .returned v ∧ w = w' := by
  have c1 : w.cell? ⟨h + 9, 1, none⟩ = some (.pointer (some ⟨h + 5, 0, none⟩)) := H.fc.cell (i := 1) (by omega)
  have hi' : (i : Int) < (n : Int) := by omega
  go_enter Tryf.func19, Tryf.ntmps19
  go_wp2
  go_ret
  exact ⟨rfl, rfl⟩
end

theorem strBytes_any (a : Option Addr) (n c : Nat) (z : List ByteArray) (w : World) (r : IsRow .string ByteArray.empty w a n c z) (ht : n + tot z n ≤ 1048576) :
    Calls Tryf.prog 8 #[.slice a n c] w fun e w' => e = .returned (.int .i64 ((16 * n + tot z n : Nat) : Int)) ∧ Below w.heap.size w w' := by
  obtain ⟨hz, _, hm, _, hc⟩ := r
  have HZ := Lib.hid hz
  clear hz hm
  go_enter Tryf.func8, Tryf.ntmps8
  go_wp2
  go_loopw [3, 4] (fun s i wr => ∃ k : Nat, k ≤ n ∧ i = .int .i64 k ∧ s = .int .i64 ((16 * n + tot z k : Nat) : Int) ∧ Below w.heap.size w wr) (fun _ i _ => n - (intOf i).toNat)
  case atStart => exact ⟨0, Nat.zero_le _, rfl, by simp [tot], Below.refl _ _⟩
  case round =>
    obtain ⟨k, hk, rfl, rfl, hbel⟩ := hrel
    by_cases hlt : k < n
    · obtain ⟨b, off, hx, hbl, hcl⟩ := hc (by omega)
      obtain ⟨s, hs⟩ : ∃ s, z.getD k ByteArray.empty = s := ⟨_, rfl⟩
      have hcs : wr.cell? ⟨b, off + k, none⟩ = some (.string s) := by rw [← hs]; exact (hbel.cell (p := ⟨b, off + k, none⟩) hbl).trans (hcl k hlt)
      have HT := Lib.hid (tot_succ z k (by have := HZ.out; omega))
      have hmono := tot_le z (show k + 1 ≤ n by omega)
      rw [HT.out, hs] at hmono
      rw [hs] at HT
      have HX := Lib.hid hx
      rw [hx]
      clear hx hcl hs
      have hlt' : (k : Int) < (n : Int) := by omega
      generalize tot z k = t at *
      generalize tot z n = u at *
      go_wp2
      go_roundw
      case rel => exact ⟨k + 1, by omega, by go_num, by rw [HT.out]; simp; omega, hbel⟩
      case measure => simp [intOf]; omega
    · obtain rfl : n = k := by omega
      clear hlt
      go_wp2
      go_ret
      exact ⟨rfl, hbel⟩
end Go.Proofs.YticnfohoddlolaaFmt
