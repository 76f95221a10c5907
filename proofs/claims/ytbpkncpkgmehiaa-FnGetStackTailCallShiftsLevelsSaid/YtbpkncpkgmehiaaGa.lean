/- n005_55: the answer's index; the arguments' fit. -/
import Derived.Test.YtbpkncpkgmehiaaGs
namespace Go.Proofs.Ytbpkncpkgmehiaa.gs
open Go.ChangeShapes Go.WideShapes Go.ChangeAt Go.RowKit
set_option linter.unusedVariables false
set_option maxRecDepth 100000
attribute [local go_sem] run_store_iface run_store_nilIface

def idxOf : Option Nat → Int
  | none => -1
  | some i => i
theorem ans_lt (g : Nat → Bool) (t : Nat → Int) : ∀ (k : Nat) (L : Int), (run g t k L).1 ≤ k
  | 0, _ => by unfold run; simp
  | k + 1, L => by
    unfold run
    by_cases h : 0 < L
    · rw [if_pos h]
      have := ans_lt g t k (L - 1 - (if g k then 0 else t k))
      omega
    · rw [if_neg h]
      exact Nat.le_refl _
theorem ans_bound (g : Nat → Bool) (t : Nat → Int) (d : Nat) (L : Int) (hd : 0 < d) : ∀ i, ans (run g t d L) = some i → i < d := by
  intro i h
  have := ans_lt g t d L
  unfold ans at h
  split at h
  · injection h with h
    omega
  · split at h
    · injection h with h
      omega
    · cases h

theorem debugFrame_any (q : Nat) (a : Option Addr) (w : World) (h : w.cell? ⟨q, 0, none⟩ = some (.pointer a)) : Calls Try.prog 29 #[.pointer (some ⟨q, 0, none⟩)] w fun e w' => e = .returned (.pointer a) ∧ w = w' := by
  go_enter Try.func29, Try.ntmps29
  go_wp2
  go_ret
  exact ⟨rfl, rfl⟩
theorem frameIdx_any (p : Addr) (i : Int) (w : World) (h : w.cell? p = some (.int .i64 i)) (hp : p.spot = none) : Calls Try.prog 30 #[.pointer (some p)] w fun e w' => e = .returned (.int .i64 i) ∧ w = w' := by
  obtain ⟨b, o, sp⟩ := p
  cases hp
  go_enter Try.func30, Try.ntmps30
  go_wp2
  go_ret
  exact ⟨rfl, rfl⟩

theorem eqDebug (w : World) : (binOp .eql 73 (.agg #[.pointer none, .string ByteArray.empty, .string ByteArray.empty, .string ByteArray.empty, .int .i64 0, .int .i64 0, .int .i64 0, .int .i64 0]) (.agg #[.pointer none, .string ByteArray.empty, .string ByteArray.empty, .string ByteArray.empty, .int .i64 0, .int .i64 0, .int .i64 0, .int .i64 0])).run Try.prog w = .ok (.bool true) w := by kernel_rfl
theorem guardDebug (w : World) : (eqGuard .eql 73 (.tmp 30) (.tmp 31) (.agg #[.pointer none, .string ByteArray.empty, .string ByteArray.empty, .string ByteArray.empty, .int .i64 0, .int .i64 0, .int .i64 0, .int .i64 0]) (.agg #[.pointer none, .string ByteArray.empty, .string ByteArray.empty, .string ByteArray.empty, .int .i64 0, .int .i64 0, .int .i64 0, .int .i64 0])).run Try.prog w = .ok () w := by kernel_rfl

set_option maxHeartbeats 1000000 in
theorem answer_any (CS FB LS d : Nat) (g : Nat → Bool) (t : Nat → Int) (level : Int) (w : World) (S : Stk w CS FB LS d g t) (hd : 0 < d) (h1 : 1 ≤ level) (h2 : level ≤ 9223372036854775807) (ht : ∀ i, i < d → 0 ≤ t i ∧ t i ≤ 65537) :
    Calls Try.prog 12 #[.pointer (some ⟨LS, 0, none⟩), .int .i64 level] w fun e w' => e = .returned (.tuple #[.int .i64 (idxOf (ans (run g t d level))), .bool (ans (run g t d level)).isSome, .bool true]) ∧ Below w.heap.size w w' := by
  have SS := Lib.hid S
  have HT := Lib.hid ht
  clear S ht
  go_enter Try.func12, Try.ntmps12
  go_wp2_with fail
  refine (getStack_any CS FB LS d g t level w SS.out hd h1 h2 HT.out).mono ?_
  have AB := Lib.hid (ans_bound g t d level hd)
  rintro e w1 ⟨q, rfl, hq, R, b1⟩
  have hD := R.cell (i := 0) (by simp)
  have D1 := R.cell (i := 1) (by simp)
  have D2 := R.cell (i := 2) (by simp)
  have D3 := R.cell (i := 3) (by simp)
  have D4 := R.cell (i := 4) (by simp)
  have D5 := R.cell (i := 5) (by simp)
  have D6 := R.cell (i := 6) (by simp)
  have D7 := R.cell (i := 7) (by simp)
  clear R
  simp only [lf, List.getD_cons_zero, List.getD_cons_succ] at hD D1 D2 D3 D4 D5 D6 D7
  obtain ⟨A, hA⟩ : ∃ A, ans (run g t d level) = A := ⟨_, rfl⟩
  rw [hA] at hD AB ⊢
  have HA := Lib.hid hA
  clear hA
  cases A with
  | none =>
    simp only [Option.map_none, Option.isSome_none, idxOf] at hD ⊢
    go_wp2_with fail
    refine (debugFrame_any q none w1 hD).mono ?_
    rintro e w2 ⟨rfl, rfl⟩
    go_wp2_with fail
    have S := lf_at w1 [.pointer none, .string { data := #[] }, .string { data := #[] }, .string { data := #[] }, .int .i64 0, .int .i64 0, .int .i64 0, .int .i64 0] 73 _ rfl
    have E0 := S.cell (i := 0) (by simp)
    have E1 := S.cell (i := 1) (by simp)
    have E2 := S.cell (i := 2) (by simp)
    have E3 := S.cell (i := 3) (by simp)
    have E4 := S.cell (i := 4) (by simp)
    have E5 := S.cell (i := 5) (by simp)
    have E6 := S.cell (i := 6) (by simp)
    have E7 := S.cell (i := 7) (by simp)
    clear S
    simp only [lf, List.getD_cons_zero, List.getD_cons_succ] at E0 E1 E2 E3 E4 E5 E6 E7
    have bW := (Below.refl w1.heap.size w1).alloc (Nat.le_refl _) (.cells #[.pointer none, .string { data := #[] }, .string { data := #[] }, .string { data := #[] }, .int .i64 0, .int .i64 0, .int .i64 0, .int .i64 0] 73)
    have hs1 := b1.size
    have bb := b1.trans (bW.mono hs1)
    have K := keeps bW
    obtain ⟨w2, hw2⟩ : ∃ v, w1.alloc (.cells #[.pointer none, .string { data := #[] }, .string { data := #[] }, .string { data := #[] }, .int .i64 0, .int .i64 0, .int .i64 0, .int .i64 0] 73) = v := ⟨_, rfl⟩
    obtain ⟨q2, hq2⟩ : ∃ v, w1.heap.size = v := ⟨_, rfl⟩
    rw [hw2] at K bb ⊢
    replace hD := K _ _ hD
    replace D1 := K _ _ D1
    replace D2 := K _ _ D2
    replace D3 := K _ _ D3
    replace D4 := K _ _ D4
    replace D5 := K _ _ D5
    replace D6 := K _ _ D6
    replace D7 := K _ _ D7
    replace E0 : w2.cell? ⟨q2, 0, none⟩ = some (.pointer none) := by rw [← hw2, ← hq2]; exact E0
    replace E1 : w2.cell? ⟨q2, 1, none⟩ = some (.string ByteArray.empty) := by rw [← hw2, ← hq2]; exact E1
    replace E2 : w2.cell? ⟨q2, 2, none⟩ = some (.string ByteArray.empty) := by rw [← hw2, ← hq2]; exact E2
    replace E3 : w2.cell? ⟨q2, 3, none⟩ = some (.string ByteArray.empty) := by rw [← hw2, ← hq2]; exact E3
    replace E4 : w2.cell? ⟨q2, 4, none⟩ = some (.int .i64 0) := by rw [← hw2, ← hq2]; exact E4
    replace E5 : w2.cell? ⟨q2, 5, none⟩ = some (.int .i64 0) := by rw [← hw2, ← hq2]; exact E5
    replace E6 : w2.cell? ⟨q2, 6, none⟩ = some (.int .i64 0) := by rw [← hw2, ← hq2]; exact E6
    replace E7 : w2.cell? ⟨q2, 7, none⟩ = some (.int .i64 0) := by rw [← hw2, ← hq2]; exact E7
    rw [hq2]
    clear K bW hw2 hq2
    have eqD := eqDebug
    have guD := guardDebug
    go_quiet (fail)
    go_wp2_with fail
    go_ret3
    exact ⟨by rw [HA.out]; rfl, below_drewN bb _⟩
  | some i =>
    have hi := AB.out i rfl
    obtain ⟨f0, _⟩ := SS.out.fr i hi
    have f0' := keeps b1 _ _ f0
    simp only [Option.map_some, Option.isSome_some, idxOf] at hD ⊢
    clear f0
    go_wp2_with fail
    refine (debugFrame_any q (some ⟨FB, i * 10, none⟩) w1 hD).mono ?_
    rintro e w2 ⟨rfl, rfl⟩
    go_wp2_with fail
    refine (frameIdx_any ⟨FB, i * 10, none⟩ i w1 f0' rfl).mono ?_
    rintro e w2 ⟨rfl, rfl⟩
    go_wp2_with fail
    go_ret3
    exact ⟨by rw [HA.out]; rfl, b1⟩

/-- What stackArgsFit asks. -/
def Fits (n0 n1 : Nat) (zt : List Int) : Prop := n1 = n0 ∧ ∀ i, i < n1 → 0 ≤ zt.getD i 0 ∧ zt.getD i 0 ≤ 65536
theorem fit_any (a b : Option Addr) (n0 n1 cg ct : Nat) (zt : List Int) (w : World) (rt : IsRow (.int .i64) 0 w b n1 ct zt) (wt : ∀ z ∈ zt, (Lit.int .i64 z).wf = true) (hn0 : n0 ≤ 9223372036854775807) (hn1 : n1 ≤ 4096) :
    Calls Try.prog 8 #[.slice a n0 cg, .slice b n1 ct] w fun e w' => ∃ r, e = .returned (.bool r) ∧ (r = true → Fits n0 n1 zt) ∧ w = w' := by
  have htc := rt.2.2.2.2
  have hz := Lib.hid rt.1
  clear rt
  by_cases hne : n1 = n0
  · subst hne
    go_enter Try.func8, Try.ntmps8
    go_wp2
    go_loopw [5] (fun i wr => ∃ k : Nat, k ≤ n1 ∧ i = .int .i64 k ∧ Hid (∀ i, i < k → 0 ≤ zt.getD i 0 ∧ zt.getD i 0 ≤ 65536) ∧ wr = w) (fun i _ => n1 - (intOf i).toNat)
    case atStart => exact ⟨0, Nat.zero_le _, rfl, Lib.hid (fun i hi => absurd hi (by omega)), rfl⟩
    case round =>
      obtain ⟨k, hk, rfl, F, rfl⟩ := hrel
      by_cases hlt : k < n1
      · obtain ⟨bt, ot, hxt, hbt, hct⟩ := htc (by omega)
        have HXT := Lib.hid hxt
        obtain ⟨v, hv⟩ : ∃ v, zt.getD k 0 = v := ⟨_, rfl⟩
        have hct' := hct k hlt
        rw [hv] at hct'
        have HV := Lib.hid hv
        rw [hxt]
        clear hxt hct hv htc
        by_cases h1 : v < 0
        · go_wp2_with fail
          go_ret
          exact ⟨false, rfl, (fun h => by cases h), rfl⟩
        by_cases h2 : 65536 < v
        · have d1 : decide (v < 0) = false := by simpa using h1
          go_wp2_with fail
          go_ret
          first
            | exact ⟨false, rfl, (fun h => by cases h), rfl⟩
            | exact .inl ⟨rfl, rfl⟩
        · have d1 : decide (v < 0) = false := by simpa using h1
          have d2 : decide (65536 < v) = false := by simpa using h2
          go_wp2_with fail
          go_roundw
          case rel =>
            refine ⟨k + 1, by omega, by go_num, Lib.hid (fun i hi => ?_), by first | rfl | trivial⟩
            by_cases e : i = k
            · subst e
              rw [HV.out]
              omega
            · exact F.out i (by omega)
          case measure => simp [intOf]; omega
      · obtain rfl : n1 = k := by omega
        go_wp2_with fail
        go_ret
        exact ⟨true, rfl, fun _ => ⟨rfl, F.out⟩, rfl⟩
  · have hne' : ((n1 : Int) == (n0 : Int)) = false := by simp; omega
    clear htc
    go_enter Try.func8, Try.ntmps8
    go_wp2
    go_ret
    exact ⟨false, rfl, (fun h => by cases h), rfl⟩
end Go.Proofs.Ytbpkncpkgmehiaa.gs
