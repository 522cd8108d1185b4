/-
  Plain: the keys of scalars; what an integer becomes as a float.
-/
import Derived.Test.YtaoonpncnahhgaaDoorK1
namespace Go.Proofs.YtaoonpncnahhgaaDoor
open Ieee Flt

theorem sval_nat (m d : Nat) : sval false m d = (m : Int) * ((2 ^ d : Nat) : Int) := by
  unfold sval
  generalize 2 ^ d = Z
  rw [if_neg (by decide), Int.natCast_mul]

theorem sval_int (n : Int) (d : Nat) : sval (decide (n < 0)) n.natAbs d = n * ((2 ^ d : Nat) : Int) := by
  unfold sval
  generalize 2 ^ d = Z
  by_cases h : n < 0
  · rw [if_pos (by simpa using h), Int.natCast_mul, ← Int.neg_mul]
    congr 1; omega
  · rw [if_neg (by simpa using h), Int.natCast_mul]
    congr 1; omega

theorem fv_w64 (neg : Bool) (E F : Nat) (h1 : 1 ≤ E) (h2 : E < 2047) (hF : F < 2 ^ 52) : fv (w64 neg E F) = sval neg (F + 2 ^ 52) (E - 1) ∧ (ofFlt (w64 neg E F)).2 = true ∧ w64 neg E F < 18446744073709551616 := by
  have e1 : w64 neg E F % 4503599627370496 = F := by unfold w64; cases neg <;> simp <;> omega
  have e2 : w64 neg E F / 4503599627370496 % 2048 = E := by unfold w64; cases neg <;> simp <;> omega
  have e3 : (w64 neg E F / 9223372036854775808 == 1) = neg := by unfold w64; cases neg <;> simp <;> omega
  refine ⟨?_, ?_, ?_⟩
  · unfold fv
    rw [e1, e2, e3]
    have h3 : ¬ E = 2047 := by omega
    have h4 : ¬ E = 0 := by omega
    simp only [if_neg h3, if_neg h4]
  · unfold ofFlt fltOf
    rw [e1, e2, if_neg (by omega), if_neg (by omega)]
  · unfold w64; cases neg <;> simp <;> omega

theorem near_zero : floatOfInt .f64 0 = 0 := by decide
theorem near_top : floatOfInt .f64 9007199254740992 = w64 false 1076 0 := by decide
theorem near_bot : floatOfInt .f64 (-9007199254740992) = w64 true 1076 0 := by decide

theorem top_eq : (0 + 2 ^ 52) * 2 ^ (1076 - 1) = 9007199254740992 * 2 ^ 1074 := by
  rw [show (1076 - 1 : Nat) = 1 + 1074 from rfl, Nat.pow_add 2 1 1074]
  generalize 2 ^ 1074 = Z
  omega

theorem fv_zero : fv 0 = 0 := by decide
theorem ok_zero : (ofFlt 0).2 = true := by decide

theorem near_fv (n : Int) (h1 : -9007199254740992 ≤ n) (h2 : n ≤ 9007199254740992) : fv (floatOfInt .f64 n) = n * ((2 ^ 1074 : Nat) : Int) ∧ (ofFlt (floatOfInt .f64 n)).2 = true ∧ floatOfInt .f64 n < 18446744073709551616 := by
  by_cases h0 : n = 0
  · subst h0; rw [near_zero]; exact ⟨by rw [fv_zero, Int.zero_mul], ok_zero, by decide⟩
  by_cases h3 : n = 9007199254740992
  · subst h3
    rw [near_top]
    obtain ⟨a, b, c⟩ := fv_w64 false 1076 0 (by decide) (by decide) (by decide)
    refine ⟨?_, b, c⟩
    rw [a]
    unfold sval
    rw [if_neg (by decide), top_eq]
    generalize 2 ^ 1074 = Z
    omega
  by_cases h4 : n = -9007199254740992
  · subst h4
    rw [near_bot]
    obtain ⟨a, b, c⟩ := fv_w64 true 1076 0 (by decide) (by decide) (by decide)
    refine ⟨?_, b, c⟩
    rw [a]
    unfold sval
    rw [if_pos rfl, top_eq]
    generalize 2 ^ 1074 = Z
    omega
  · have hm : n.natAbs ≠ 0 := by omega
    have hl := Nat.log2_self_le hm
    have hu := Nat.lt_log2_self (n := n.natAbs)
    have hk : n.natAbs.log2 < 53 := (Nat.log2_lt hm).2 (by omega)
    have hw : floatOfInt .f64 n = w64 (decide (n < 0)) (n.natAbs.log2 + 1023) (n.natAbs * 2 ^ (52 - n.natAbs.log2) - 2 ^ 52) := by
      show double.nearest (decide (n < 0)) n.natAbs 0 = _
      rw [write64 hl hu (by omega) (by omega) (by omega)]
      congr 1
      omega
    have hlo : 2 ^ 52 ≤ n.natAbs * 2 ^ (52 - n.natAbs.log2) := by
      have := Nat.mul_le_mul_right (2 ^ (52 - n.natAbs.log2)) hl
      rwa [← Nat.pow_add, show n.natAbs.log2 + (52 - n.natAbs.log2) = 52 by omega] at this
    have hhi : n.natAbs * 2 ^ (52 - n.natAbs.log2) < 2 ^ 53 := by
      have := Nat.mul_lt_mul_of_pos_right hu (Nat.two_pow_pos (52 - n.natAbs.log2))
      rwa [← Nat.pow_add, show n.natAbs.log2 + 1 + (52 - n.natAbs.log2) = 53 by omega] at this
    obtain ⟨a, b, c⟩ := fv_w64 (decide (n < 0)) (n.natAbs.log2 + 1023) (n.natAbs * 2 ^ (52 - n.natAbs.log2) - 2 ^ 52) (by omega) (by omega) (by omega)
    rw [hw]
    refine ⟨?_, b, c⟩
    rw [a, ← sval_int n 1074]
    unfold sval
    have : (n.natAbs * 2 ^ (52 - n.natAbs.log2) - 2 ^ 52 + 2 ^ 52) * 2 ^ (n.natAbs.log2 + 1023 - 1) = n.natAbs * 2 ^ 1074 := by
      rw [Nat.sub_add_cancel hlo, Nat.mul_assoc, ← Nat.pow_add]
      rw [show 52 - n.natAbs.log2 + (n.natAbs.log2 + 1023 - 1) = 1074 from by omega]
    rw [this]

/-- a number's keys: its real part, its imaginary part -/
def key1 (s : Sc) : Int := if s.kind < 7 then s.int * ((2 ^ 1074 : Nat) : Int) else if s.kind < 12 then (s.uint : Int) * ((2 ^ 1074 : Nat) : Int) else fv s.a
def key2 (s : Sc) : Int := if 14 ≤ s.kind then fv s.b else 0

theorem part1 {s : Sc} (hw : s.wf) (hk : (parts s).2.2 = true) : ∃ neg m e, (parts s).1 = nrm neg m e ∧ m < 2 ^ 64 ∧ -1074 ≤ e ∧ sval neg m (e - -1074).toNat = key1 s := by
  have i0 := hw.i0
  have i1 := hw.i1
  have u1 := hw.u1
  unfold parts key1 at *
  by_cases h1 : s.kind < 7
  · simp only [if_pos h1]
    exact ⟨_, _, _, rfl, by omega, by decide, sval_int s.int 1074⟩
  · simp only [if_neg h1] at *
    by_cases h2 : s.kind < 12
    · simp only [if_pos h2]
      exact ⟨_, _, _, rfl, by omega, by decide, sval_nat s.uint 1074⟩
    · simp only [if_neg h2] at *
      by_cases h3 : 14 ≤ s.kind
      · simp only [if_pos h3] at *
        rw [Bool.and_eq_true] at hk
        exact ofFlt_fv hk.1
      · simp only [if_neg h3] at *
        exact ofFlt_fv hk

theorem part2 {s : Sc} (hk : (parts s).2.2 = true) : ∃ neg m e, (parts s).2.1 = nrm neg m e ∧ m < 2 ^ 64 ∧ -1074 ≤ e ∧ sval neg m (e - -1074).toNat = key2 s := by
  have hz : sval false 0 ((0 : Int) - -1074).toNat = 0 := by unfold sval; rw [if_neg (by decide), Nat.zero_mul]; rfl
  unfold parts key2 at *
  by_cases h1 : s.kind < 7
  · simp only [if_pos h1, if_neg (show ¬ 14 ≤ s.kind by omega)]
    exact ⟨false, 0, 0, rfl, by decide, by decide, hz⟩
  · simp only [if_neg h1] at *
    by_cases h2 : s.kind < 12
    · simp only [if_pos h2, if_neg (show ¬ 14 ≤ s.kind by omega)]
      exact ⟨false, 0, 0, rfl, by decide, by decide, hz⟩
    · simp only [if_neg h2] at *
      by_cases h3 : 14 ≤ s.kind
      · simp only [if_pos h3] at *
        rw [Bool.and_eq_true] at hk
        exact ofFlt_fv hk.2
      · simp only [if_neg h3] at *
        exact ⟨false, 0, 0, rfl, by decide, by decide, hz⟩

theorem less1 {s t : Sc} (hs : s.wf) (ht : t.wf) (ks : (parts s).2.2 = true) (kt : (parts t).2.2 = true) : lessN (parts s).1 (parts t).1 = cmpI (key1 s) (key1 t) := by
  obtain ⟨n1, m1, e1, h1, h2, h3, h4⟩ := part1 hs ks
  obtain ⟨n2, m2, e2, g1, g2, g3, g4⟩ := part1 ht kt
  rw [h1, g1, less_nrm n1 n2 m1 m2 e1 e2 (-1074) h2 g2 h3 g3, h4, g4]
theorem less2 {s t : Sc} (ks : (parts s).2.2 = true) (kt : (parts t).2.2 = true) : lessN (parts s).2.1 (parts t).2.1 = cmpI (key2 s) (key2 t) := by
  obtain ⟨n1, m1, e1, h1, h2, h3, h4⟩ := part2 ks
  obtain ⟨n2, m2, e2, g1, g2, g3, g4⟩ := part2 kt
  rw [h1, g1, less_nrm n1 n2 m1 m2 e1 e2 (-1074) h2 g2 h3 g3, h4, g4]

end Go.Proofs.YtaoonpncnahhgaaDoor
