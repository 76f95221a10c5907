/- The context of n005_54 with k pending gotos, each with its name and its line. -/
import Derived.Test.YtpkolfmdockdnaaFmtGa2
namespace Go.Proofs.YtpkolfmdockdnaaFmt
open Go.ChangeShapes Go.WideShapes Go.ChangeAt Go.RowKit
set_option linter.unusedVariables false
set_option maxRecDepth 100000

/-- The cells of the goto with number j. -/
abbrev dCells (j : Nat) (nm : ByteArray) (ln : Int) : Nat → Value := lf [.int .i64 j, .string nm, .int .i64 j, .int .i64 ln, .int .i64 0]
/-- The context at F with its map at M: k gotos, the j-th at q j with name nm j and line ln j. -/
structure St (w : World) (F M k : Nat) (nm : Nat → ByteArray) (ln : Nat → Int) (q : Nat → Nat) : Prop where
  c9 : w.cell? ⟨F, 9, none⟩ = some (.int .i64 k)
  f9 : w.frozen? ⟨F, 9, none⟩ = false
  c10 : w.cell? ⟨F, 10, none⟩ = some (.map (some M))
  g : Gm w M k q
  d : ∀ j, j < k → F < q j ∧ M < q j ∧ w.rowIs (q j) 34 5 (dCells j (nm j) (ln j))

theorem St.below {w w' : World} {F M k : Nat} {nm : Nat → ByteArray} {ln : Nat → Int} {q : Nat → Nat} (h : St w F M k nm ln q) (b : Below w.heap.size w w') : St w' F M k nm ln q :=
  ⟨(b.cell (cell_block_lt h.c9)).trans h.c9, (World.frozen?_of_block (a := ⟨F, 9, none⟩) (b.block F (cell_block_lt h.c9))).trans h.f9, (b.cell (cell_block_lt h.c10)).trans h.c10, h.g.keep (b.block M h.g.lt), fun j hj => ⟨(h.d j hj).1, (h.d j hj).2.1, rowIs_below b (h.d j hj).2.2.lt (h.d j hj).2.2⟩⟩
theorem St.lt {w : World} {F M k : Nat} {nm : Nat → ByteArray} {ln : Nat → Int} {q : Nat → Nat} (h : St w F M k nm ln q) : F < w.heap.size := cell_block_lt h.c9

theorem St.setF {w : World} {F M k : Nat} {nm : Nat → ByteArray} {ln : Nat → Int} {q : Nat → Nat} (h : St w F M k nm ln q) (o : Nat) (v : Value) (h9 : o ≠ 9) (h10 : o ≠ 10) : St (w.setCell ⟨F, o, none⟩ v) F M k nm ln q := by
  have hFM : F ≠ M := by
    rintro rfl
    obtain ⟨D, ⟨es, ck, hm, _⟩, _⟩ := h.g
    have := h.c9
    simp [World.cell?, hm] at this
  refine ⟨?_, ?_, ?_, h.g.keep (Below.heap_setCell _ _ _ _ (fun e => hFM e.symm)), fun j hj => ⟨(h.d j hj).1, (h.d j hj).2.1, ((h.d j hj).2.2).setOther (a := ⟨F, o, none⟩) (by have := (h.d j hj).1; show q j ≠ F; omega) _⟩⟩
  · rw [World.cell?_setCell_other _ _ _ _ (fun e => h9 (congrArg Addr.off e))]
    exact h.c9
  · rw [World.frozen?_setCell]
    exact h.f9
  · rw [World.cell?_setCell_other _ _ _ _ (fun e => h10 (congrArg Addr.off e))]
    exact h.c10

theorem addSt_any (F M k p : Nat) (nm : Nat → ByteArray) (ln : Nat → Int) (q : Nat → Nat) (w : World) (h : St w F M k nm ln q) (h1 : F < p) (h2 : M < p) (hr : w.rowIs p 34 5 (dCells k (nm k) (ln k))) (hn : k ≤ 1048575) :
    Calls Tryf.prog 6 #[.pointer (some ⟨F, 0, none⟩), .pointer (some ⟨p, 0, none⟩)] w fun e w' => e = .returned (.tuple #[]) ∧ (∃ q', St w' F M (k + 1) nm ln q') ∧ w.heap.size ≤ w'.heap.size ∧ (∀ B, B ≤ F → B ≤ M → Below B w w') ∧ (∀ i, i < w.heap.size → i ≠ M → i ≠ F → w'.heap[i]? = w.heap[i]?) ∧ (∀ o, o ≠ 9 → w'.cell? ⟨F, o, none⟩ = w.cell? ⟨F, o, none⟩) ∧ (∀ o, w'.frozen? ⟨F, o, none⟩ = w.frozen? ⟨F, o, none⟩) := by
  refine (add_any F M k p q w h.c9 h.f9 h.c10 h.g hn).mono ?_
  rintro e w' ⟨rfl, g, c, hs, hB, hk, ho, hf⟩
  refine ⟨rfl, ⟨_, c, (hf 9).trans h.f9, (ho 10 (by decide)).trans h.c10, g, fun j hj => ?_⟩, hs, hB, hk, ho, hf⟩
  by_cases e : j = k
  · subst e
    simp only [if_pos rfl]
    exact ⟨h1, h2, hr.of_block (hk p hr.lt (by omega) (by omega))⟩
  · simp only [if_neg e]
    obtain ⟨r1, r2, r3⟩ := h.d j (by omega)
    exact ⟨r1, r2, r3.of_block (hk _ r3.lt (by omega) (by omega))⟩
end Go.Proofs.YtpkolfmdockdnaaFmt
