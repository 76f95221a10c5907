/- The text of fmt.Sprintf at a literal format of bare %v and %d with ints (one string by %s ahead of them): it is told, and its length lies between that of the format's own letters and that plus 21 a verb. No program in sight. -/
import Derived.Test.YtbpkncpkgmehiaaFmtBase
import Derived.Stop.FmtTextKit
import Derived.Stop.JoinedTold
import Derived.Stop.Texts
import Derived.Stop.CallBack
namespace Go.Proofs.YtbpkncpkgmehiaaFmt
open Go.Extern.Stop Go.Stop Go.Extern Go.Extern.FmtText
set_option linter.unusedVariables false

def bareF (f : Flags) : Bool := !f.widPresent && !f.precPresent && !f.minus && !f.plus && !f.sharp && !f.space && !f.zero && !f.plusV && !f.sharpV && f.wid == 0 && f.prec == 0
theorem bareF_eq {f : Flags} (h : bareF f = true) : f = {} := by
  obtain ⟨a, b, c, d, e, g, i, j, k, l, m⟩ := f
  simp [bareF] at h
  obtain ⟨⟨⟨⟨⟨⟨⟨⟨⟨⟨h1, h2⟩, h3⟩, h4⟩, h5⟩, h6⟩, h7⟩, h8⟩, h9⟩, h10⟩, h11⟩ := h
  subst h1 h2 h3 h4 h5 h6 h7 h8 h9 h10 h11
  rfl
/-- The format's own letters, where its verbs are n bare %v and %d. -/
def litsOf : List Piece → Nat → Option Nat
  | [], 0 => some 0
  | [], _ + 1 => none
  | .lit b :: ps, n => (litsOf ps n).map (b.length + ·)
  | .verb _ _ :: _, 0 => none
  | .verb f c :: ps, n + 1 => if (c == 118 || c == 100) && bareF f then litsOf ps n else none
def intShape : List UInt8 := FmtStop.intCode .i64 :: FmtStop.pack [105, 110, 116]
def strShape : List UInt8 := 12 :: FmtStop.pack [115, 116, 114, 105, 110, 103]
def intOps (xs : List Int) : List (List UInt8) := xs.flatMap fun x => [intShape, digits 8 (x % 18446744073709551616).toNat]

theorem render_ints : ∀ (ps : List Piece) (xs : List Int) (l : Nat), litsOf ps xs.length = some l → (∀ x ∈ xs, (Lit.int .i64 x).wf = true) →
    ∃ t, render false ps (xs.map fun x => Operand.int [105, 110, 116] true (x % 18446744073709551616).toNat) = some t ∧ l ≤ t.length ∧ t.length ≤ l + 21 * xs.length
  | [], [], l, h, _ => by simp [litsOf] at h; exact ⟨[], by simp [render], by omega, by simp⟩
  | [], _ :: _, _, h, _ => by simp [litsOf] at h
  | .lit b :: ps, xs, l, h, hx => by
    simp [litsOf] at h
    obtain ⟨m, hm, rfl⟩ := h
    obtain ⟨t, ht, h1, h2⟩ := render_ints ps xs m hm hx
    exact ⟨b ++ t, by rw [render_lit, ht]; rfl, by simp; omega, by simp; omega⟩
  | .verb f c :: ps, [], l, h, _ => by simp [litsOf] at h
  | .verb f c :: ps, x :: xs, l, h, hx => by
    simp [litsOf] at h
    obtain ⟨⟨hc, hb⟩, h⟩ := h
    obtain rfl := bareF_eq hb
    obtain ⟨t, ht, h1, h2⟩ := render_ints ps xs l h fun y hy => hx y (List.mem_cons_of_mem _ hy)
    have hw := hx x List.mem_cons_self
    have hi := itoa_length_le hw
    have hp : printArg false {} c (.int [105, 110, 116] true (x % 18446744073709551616).toNat) = some (Lib.itoa x) := by
      rcases hc with rfl | rfl
      · exact printArg_v false _ hw
      · exact printArg_d false _ hw
    refine ⟨Lib.itoa x ++ t, ?_, by simp; omega, by simp; omega⟩
    simp [render, hp, ht]

theorem operands_ints : ∀ (xs : List Int), (∀ x ∈ xs, (Lit.int .i64 x).wf = true) → operands (intOps xs) = some (xs.map fun x => Operand.int [105, 110, 116] true (x % 18446744073709551616).toNat)
  | [], _ => rfl
  | x :: xs, hx => by
    have hi : operand intShape (digits 8 (x % 18446744073709551616).toNat) = some (.int [105, 110, 116] true (x % 18446744073709551616).toNat) :=
      operand_int_at (k := .i64) (n := FmtStop.pack [105, 110, 116]) rfl (by decide) x (hx x List.mem_cons_self)
    exact operands_cons hi (operands_ints xs fun y hy => hx y (List.mem_cons_of_mem _ hy))

/-- The closed fact asked of a format that takes n ints. -/
def fitsInts (f : List UInt8) (n : Nat) : Bool := match (FmtText.parse f).bind fun ps => litsOf ps n with
  | some l => 1 ≤ l && l ≤ 200
  | none => false
/-- Of a format that takes one string by %s and then n ints. -/
def fitsHead (f : List UInt8) (n : Nat) : Bool := match FmtText.parse f with
  | some (.verb g c :: ps) => c == 115 && bareF g && (match litsOf ps n with | some l => 1 ≤ l && l ≤ 200 | none => false)
  | _ => false

theorem text_ints {f : List UInt8} {xs : List Int} (hf : fitsInts f xs.length = true) (hx : ∀ x ∈ xs, (Lit.int .i64 x).wf = true) :
    ∃ t, FmtText.text "fmt.Sprintf" (f :: intOps xs) = some t ∧ 1 ≤ t.length ∧ t.length ≤ 200 + 21 * xs.length := by
  unfold fitsInts at hf
  split at hf
  · rename_i l hl
    obtain ⟨ps, hp, hl⟩ := Option.bind_eq_some_iff.1 hl
    simp at hf
    obtain ⟨t, ht, h1, h2⟩ := render_ints ps xs l hl hx
    exact ⟨t, by rw [text_sprintf hp (operands_ints xs hx), ht], by omega, by omega⟩
  · cases hf

theorem text_head {f s : List UInt8} {xs : List Int} (hf : fitsHead f xs.length = true) (hs : s.length ≤ 100) (hx : ∀ x ∈ xs, (Lit.int .i64 x).wf = true) :
    ∃ t, FmtText.text "fmt.Sprintf" (f :: strShape :: FmtStop.pack s :: intOps xs) = some t ∧ 1 ≤ t.length ∧ t.length ≤ 300 + 21 * xs.length := by
  unfold fitsHead at hf
  split at hf
  · rename_i g c ps hp
    simp at hf
    obtain ⟨⟨rfl, hg⟩, hf⟩ := hf
    obtain rfl := bareF_eq hg
    split at hf
    · rename_i l hl
      simp at hf
      obtain ⟨t, ht, h1, h2⟩ := render_ints ps xs l hl hx
      have hi : operand strShape (FmtStop.pack s) = some (.str [115, 116, 114, 105, 110, 103] s) :=
        operand_str_at (n := FmtStop.pack [115, 116, 114, 105, 110, 103]) rfl (by decide) s (by omega)
      refine ⟨s ++ t, ?_, by simp; omega, by simp; omega⟩
      rw [text_sprintf hp (operands_cons hi (operands_ints xs hx))]
      simp [render, printArg_s_str, ht]
    · cases hf
  · cases hf

/-- What F.told spells there. -/
theorem told_bytes (F : Interp) {reading : List (List UInt8)} {t : List UInt8} (h : FmtText.text "fmt.Sprintf" reading = some t) (hl : t.length < 2 ^ 63) :
    FmtStop.textOf (F.told "fmt.Sprintf" reading 0) = ⟨t.toArray⟩ := by
  have h1 := told_string F h hl
  have h2 := Go.Kit.textOf_list F.told "fmt.Sprintf" reading
  rw [h1] at h2
  obtain ⟨d, hd⟩ : ∃ d, FmtStop.textOf (F.told "fmt.Sprintf" reading 0) = d := ⟨_, rfl⟩
  rw [hd] at h2 ⊢
  obtain ⟨⟨l⟩⟩ := d
  simp at h2
  rw [h2]
end Go.Proofs.YtbpkncpkgmehiaaFmt
