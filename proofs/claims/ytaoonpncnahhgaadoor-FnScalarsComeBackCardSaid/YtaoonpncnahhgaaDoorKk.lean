/-
  Plain: every number has a key, a whole number; the orders are the keys'.
-/
import Derived.Test.YtaoonpncnahhgaaDoorFlt2
import Derived.Test.YtaoonpncnahhgaaDoorC1
import Derived.Test.YtaoonpncnahhgaaDoorC10
import Derived.Test.YtaoonpncnahhgaaDoorM1
namespace Go.Proofs.YtaoonpncnahhgaaDoor
open Ieee Flt

/-- what a float stands for, in units of 2^-1074; an infinity is beyond all others -/
def fv (x : Nat) : Int :=
  sval (x / 9223372036854775808 == 1) (if x / 4503599627370496 % 2048 = 2047 then 1 else if x / 4503599627370496 % 2048 = 0 then x % 4503599627370496 else x % 4503599627370496 + 4503599627370496)
    (if x / 4503599627370496 % 2048 = 2047 then 6074 else if x / 4503599627370496 % 2048 = 0 then 0 else x / 4503599627370496 % 2048 - 1)

theorem ofFlt_fv {x : Nat} (h : (ofFlt x).2 = true) :
    ∃ neg m e, (ofFlt x).1 = nrm neg m e ∧ m < 2 ^ 64 ∧ -1074 ≤ e ∧ sval neg m (e - -1074).toNat = fv x := by
  have hF : x % 4503599627370496 < 4503599627370496 := Nat.mod_lt _ (by decide)
  unfold ofFlt fltOf at *
  unfold fv
  generalize x % 4503599627370496 = F at *
  generalize x / 4503599627370496 % 2048 = E at *
  by_cases h1 : E = 2047
  · rw [if_pos h1] at *
    by_cases h2 : F = 0
    · rw [if_pos h2]
      exact ⟨_, 1, 5000, rfl, by decide, by decide, by simp only [if_pos h1]; exact congrArg (sval _ 1) (by decide)⟩
    · rw [if_neg h2] at h; cases h
  · simp only [if_neg h1]
    by_cases h2 : E = 0
    · simp only [if_pos h2]
      exact ⟨_, F, -1074, rfl, by omega, by decide, rfl⟩
    · simp only [if_neg h2]
      exact ⟨_, F + 4503599627370496, (E : Int) - 1075, rfl, by omega, by omega, by rw [show ((E : Int) - 1075 - -1074).toNat = E - 1 from by omega]⟩

theorem less_fv {x y : Nat} (hx : (ofFlt x).2 = true) (hy : (ofFlt y).2 = true) : lessN (ofFlt x).1 (ofFlt y).1 = cmpI (fv x) (fv y) := by
  obtain ⟨n1, m1, e1, h1, h2, h3, h4⟩ := ofFlt_fv hx
  obtain ⟨n2, m2, e2, g1, g2, g3, g4⟩ := ofFlt_fv hy
  rw [h1, g1, less_nrm n1 n2 m1 m2 e1 e2 (-1074) h2 g2 h3 g3, h4, g4]

theorem mul_pow_lt {m d a b c : Nat} (hm : m < 2 ^ a) (hd : d ≤ b) (h : a + b ≤ c) : m * 2 ^ d < 2 ^ c := by
  have h1 : 2 ^ d ≤ 2 ^ b := Nat.pow_le_pow_right (by decide) hd
  have h2 : m * 2 ^ d < 2 ^ a * 2 ^ b := Nat.lt_of_lt_of_le (Nat.mul_lt_mul_of_pos_right hm (Nat.two_pow_pos d)) (Nat.mul_le_mul_left _ h1)
  rw [← Nat.pow_add] at h2
  exact Nat.lt_of_lt_of_le h2 (Nat.pow_le_pow_right (by decide) h)

theorem sval_lt (neg : Bool) (m d : Nat) (hm : m < 2 ^ 53) (hd : d ≤ 2046) : -((2 ^ 6074 : Nat) : Int) < sval neg m d ∧ sval neg m d < ((2 ^ 6074 : Nat) : Int) := by
  have : m * 2 ^ d < 2 ^ 6074 := mul_pow_lt (a := 53) (b := 2046) (c := 6074) hm hd (by decide)
  unfold sval
  generalize 2 ^ 6074 = Z at *
  generalize m * 2 ^ d = V at *
  cases neg
  · rw [if_neg (by decide)]; omega
  · rw [if_pos rfl]; omega

/-- the datum of a float that is a number or an infinity, by its key -/
theorem read_inf (x : Nat) (hx : x < 18446744073709551616) (hE : x / 4503599627370496 % 2048 = 2047) (hF : x % 4503599627370496 = 0) :
    FloatKind.f64.format.read x = .infinity (x / 9223372036854775808 == 1) := by
  have hsw : double.signWeight = 2 ^ 63 := rfl
  have hb : double.binade = 2 ^ 52 := rfl
  have hi : double.infRung = 2047 * 2 ^ 52 := by decide
  have h1 : x % 2 ^ 63 = 2047 * 2 ^ 52 := by omega
  have h2 : x / 2 ^ 63 % 2 = x / 9223372036854775808 := by omega
  show double.read _ = _
  unfold Format.read
  simp only [hsw, hb, hi, h1, h2]
  rw [if_neg (by decide), if_neg (by decide)]; simp

theorem ofFlt_ok {x : Nat} (h : (ofFlt x).2 = true) (hE : x / 4503599627370496 % 2048 = 2047) : x % 4503599627370496 = 0 := by
  unfold ofFlt fltOf at h
  rw [if_pos hE] at h
  by_cases h2 : x % 4503599627370496 = 0
  · exact h2
  · rw [if_neg h2] at h; cases h

def ordI (o : Option Ordering) : Int := match o with | some .lt => -1 | some .eq => 0 | _ => 1
theorem ordI_compare (a b : Int) : ordI (some (compare a b)) = cmpI a b := by
  unfold cmpI
  rcases Int.lt_trichotomy a b with h | h | h
  · rw [Int.compare_eq_lt.2 h, if_pos h]; rfl
  · subst h; rw [Int.compare_eq_eq.2 rfl, if_neg (by omega), if_neg (by omega)]; rfl
  · rw [Int.compare_eq_gt.2 h, if_neg (by omega), if_pos h]; rfl

theorem signed_sval (neg : Bool) (m d : Nat) : signed neg m d = sval neg m d := by
  unfold signed sval
  rw [Nat.shiftLeft_eq]

theorem ordF_fv {x y : Nat} (hx : x < 18446744073709551616) (hy : y < 18446744073709551616) (ox : (ofFlt x).2 = true) (oy : (ofFlt y).2 = true) : ordF x y = cmpI (fv x) (fv y) := by
  show ordI ((FloatKind.f64.format.read x).order (FloatKind.f64.format.read y)) = _
  have hFx : x % 4503599627370496 < 4503599627370496 := Nat.mod_lt _ (by decide)
  have hFy : y % 4503599627370496 < 4503599627370496 := Nat.mod_lt _ (by decide)
  have hEx : x / 4503599627370496 % 2048 < 2048 := Nat.mod_lt _ (by decide)
  have hEy : y / 4503599627370496 % 2048 < 2048 := Nat.mod_lt _ (by decide)
  by_cases h1 : x / 4503599627370496 % 2048 = 2047
  · rw [read_inf x hx h1 (ofFlt_ok ox h1)]
    have e1 : fv x = sval (x / 9223372036854775808 == 1) 1 6074 := by unfold fv; rw [if_pos h1, if_pos h1]
    rw [e1]
    by_cases h2 : y / 4503599627370496 % 2048 = 2047
    · rw [read_inf y hy h2 (ofFlt_ok oy h2)]
      have e2 : fv y = sval (y / 9223372036854775808 == 1) 1 6074 := by unfold fv; rw [if_pos h2, if_pos h2]
      rw [e2]
      generalize (x / 9223372036854775808 == 1) = s
      generalize (y / 9223372036854775808 == 1) = t
      have hz : (0 : Int) < ((2 ^ 6074 : Nat) : Int) := by have := Nat.two_pow_pos 6074; omega
      unfold sval
      generalize (2 ^ 6074 : Nat) = Zn at *
      rw [Nat.one_mul]
      generalize (Zn : Int) = Z at *
      cases s <;> cases t
      · show (0 : Int) = cmpI Z Z
        rw [cmpI_self]
      · show (1 : Int) = cmpI Z (-Z)
        unfold cmpI; rw [if_neg (by omega), if_pos (by omega)]
      · show (-1 : Int) = cmpI (-Z) Z
        unfold cmpI; rw [if_pos (by omega)]
      · show (0 : Int) = cmpI (-Z) (-Z)
        rw [cmpI_self]
    · rw [read_any y hy h2]
      have hb := sval_lt (y / 9223372036854775808 == 1) (if y / 4503599627370496 % 2048 = 0 then y % 4503599627370496 else y % 4503599627370496 + 4503599627370496) (if y / 4503599627370496 % 2048 = 0 then 0 else y / 4503599627370496 % 2048 - 1) (by split <;> omega) (by split <;> omega)
      have e2 : fv y = sval (y / 9223372036854775808 == 1) (if y / 4503599627370496 % 2048 = 0 then y % 4503599627370496 else y % 4503599627370496 + 4503599627370496) (if y / 4503599627370496 % 2048 = 0 then 0 else y / 4503599627370496 % 2048 - 1) := by unfold fv; rw [if_neg h2, if_neg h2]
      rw [e2]
      generalize sval (y / 9223372036854775808 == 1) _ _ = V at *
      generalize (x / 9223372036854775808 == 1) = s
      unfold sval
      generalize (2 ^ 6074 : Nat) = Zn at *
      rw [Nat.one_mul]
      generalize (Zn : Int) = Z at *
      cases s
      · show (1 : Int) = _
        unfold cmpI; rw [if_neg (by simp; omega), if_pos (by simp; omega)]
      · show (-1 : Int) = _
        unfold cmpI; rw [if_pos (by simp; omega)]
  · by_cases h2 : y / 4503599627370496 % 2048 = 2047
    · rw [read_inf y hy h2 (ofFlt_ok oy h2), read_any x hx h1]
      have e1 : fv y = sval (y / 9223372036854775808 == 1) 1 6074 := by unfold fv; rw [if_pos h2, if_pos h2]
      have hb := sval_lt (x / 9223372036854775808 == 1) (if x / 4503599627370496 % 2048 = 0 then x % 4503599627370496 else x % 4503599627370496 + 4503599627370496) (if x / 4503599627370496 % 2048 = 0 then 0 else x / 4503599627370496 % 2048 - 1) (by split <;> omega) (by split <;> omega)
      have e2 : fv x = sval (x / 9223372036854775808 == 1) (if x / 4503599627370496 % 2048 = 0 then x % 4503599627370496 else x % 4503599627370496 + 4503599627370496) (if x / 4503599627370496 % 2048 = 0 then 0 else x / 4503599627370496 % 2048 - 1) := by unfold fv; rw [if_neg h1, if_neg h1]
      rw [e1, e2]
      generalize sval (x / 9223372036854775808 == 1) _ _ = V at *
      generalize (y / 9223372036854775808 == 1) = s
      unfold sval
      generalize (2 ^ 6074 : Nat) = Zn at *
      rw [Nat.one_mul]
      generalize (Zn : Int) = Z at *
      cases s
      · show (-1 : Int) = _
        unfold cmpI; rw [if_pos (by simp; omega)]
      · show (1 : Int) = _
        unfold cmpI; rw [if_neg (by simp; omega), if_pos (by simp; omega)]
    · rw [read_any x hx h1, read_any y hy h2]
      have e1 : fv x = sval (x / 9223372036854775808 == 1) (if x / 4503599627370496 % 2048 = 0 then x % 4503599627370496 else x % 4503599627370496 + 4503599627370496) ((if x / 4503599627370496 % 2048 = 0 then -1074 else ((x / 4503599627370496 % 2048 : Nat) : Int) - 1075) - -1074).toNat := by
        unfold fv; rw [if_neg h1, if_neg h1]; congr 1; split <;> omega
      have e2 : fv y = sval (y / 9223372036854775808 == 1) (if y / 4503599627370496 % 2048 = 0 then y % 4503599627370496 else y % 4503599627370496 + 4503599627370496) ((if y / 4503599627370496 % 2048 = 0 then -1074 else ((y / 4503599627370496 % 2048 : Nat) : Int) - 1075) - -1074).toNat := by
        unfold fv; rw [if_neg h2, if_neg h2]; congr 1; split <;> omega
      have b1 : (-1074 : Int) ≤ (if x / 4503599627370496 % 2048 = 0 then -1074 else ((x / 4503599627370496 % 2048 : Nat) : Int) - 1075) := by split <;> omega
      have b2 : (-1074 : Int) ≤ (if y / 4503599627370496 % 2048 = 0 then -1074 else ((y / 4503599627370496 % 2048 : Nat) : Int) - 1075) := by split <;> omega
      rw [e1, e2]
      generalize (if x / 4503599627370496 % 2048 = 0 then -1074 else ((x / 4503599627370496 % 2048 : Nat) : Int) - 1075) = i at *
      generalize (if y / 4503599627370496 % 2048 = 0 then -1074 else ((y / 4503599627370496 % 2048 : Nat) : Int) - 1075) = j at *
      show ordI (some (compare (signed _ _ (i - min i j).toNat) (signed _ _ (j - min i j).toNat))) = _
      rw [ordI_compare, signed_sval, signed_sval]
      exact (cmp_base _ _ _ _ i j (min i j) (-1074) (by omega) (by omega) (by omega)).symm

end Go.Proofs.YtaoonpncnahhgaaDoor

namespace Go.Proofs.YtaoonpncnahhgaaDoor
open Ieee Flt

theorem sval_nat (m d : Nat) : sval false m d = (m : Int) * ((2 ^ d : Nat) : Int) := by
  unfold sval
  generalize 2 ^ d = Z
  rw [if_neg (by decide), Int.natCast_mul]

theorem sval_int (n : Int) (d : Nat) : sval (decide (n < 0)) n.natAbs d = n * ((2 ^ d : Nat) : Int) := by
  unfold sval
  generalize 2 ^ d = Z
  by_cases h : n < 0
  · rw [if_pos (by simpa using h), Int.natCast_mul, ← Int.neg_mul]
    congr 1; omega
  · rw [if_neg (by simpa using h), Int.natCast_mul]
    congr 1; omega

theorem fv_w64 (neg : Bool) (E F : Nat) (h1 : 1 ≤ E) (h2 : E < 2047) (hF : F < 2 ^ 52) : fv (w64 neg E F) = sval neg (F + 2 ^ 52) (E - 1) ∧ (ofFlt (w64 neg E F)).2 = true ∧ w64 neg E F < 18446744073709551616 := by
  have e1 : w64 neg E F % 4503599627370496 = F := by unfold w64; cases neg <;> simp <;> omega
  have e2 : w64 neg E F / 4503599627370496 % 2048 = E := by unfold w64; cases neg <;> simp <;> omega
  have e3 : (w64 neg E F / 9223372036854775808 == 1) = neg := by unfold w64; cases neg <;> simp <;> omega
  refine ⟨?_, ?_, ?_⟩
  · unfold fv
    rw [e1, e2, e3]
    have h3 : ¬ E = 2047 := by omega
    have h4 : ¬ E = 0 := by omega
    simp only [if_neg h3, if_neg h4]
  · unfold ofFlt fltOf
    rw [e1, e2, if_neg (by omega), if_neg (by omega)]
  · unfold w64; cases neg <;> simp <;> omega

theorem near_zero : floatOfInt .f64 0 = 0 := by decide
theorem near_top : floatOfInt .f64 9007199254740992 = w64 false 1076 0 := by decide
theorem near_bot : floatOfInt .f64 (-9007199254740992) = w64 true 1076 0 := by decide

theorem top_eq : (0 + 2 ^ 52) * 2 ^ (1076 - 1) = 9007199254740992 * 2 ^ 1074 := by
  rw [show (1076 - 1 : Nat) = 1 + 1074 from rfl, Nat.pow_add 2 1 1074]
  generalize 2 ^ 1074 = Z
  omega

theorem fv_zero : fv 0 = 0 := by decide
theorem ok_zero : (ofFlt 0).2 = true := by decide

theorem near_fv (n : Int) (h1 : -9007199254740992 ≤ n) (h2 : n ≤ 9007199254740992) : fv (floatOfInt .f64 n) = n * ((2 ^ 1074 : Nat) : Int) ∧ (ofFlt (floatOfInt .f64 n)).2 = true ∧ floatOfInt .f64 n < 18446744073709551616 := by
  by_cases h0 : n = 0
  · subst h0; rw [near_zero]; exact ⟨by rw [fv_zero, Int.zero_mul], ok_zero, by decide⟩
  by_cases h3 : n = 9007199254740992
  · subst h3
    rw [near_top]
    obtain ⟨a, b, c⟩ := fv_w64 false 1076 0 (by decide) (by decide) (by decide)
    refine ⟨?_, b, c⟩
    rw [a]
    unfold sval
    rw [if_neg (by decide), top_eq]
    generalize 2 ^ 1074 = Z
    omega
  by_cases h4 : n = -9007199254740992
  · subst h4
    rw [near_bot]
    obtain ⟨a, b, c⟩ := fv_w64 true 1076 0 (by decide) (by decide) (by decide)
    refine ⟨?_, b, c⟩
    rw [a]
    unfold sval
    rw [if_pos rfl, top_eq]
    generalize 2 ^ 1074 = Z
    omega
  · have hm : n.natAbs ≠ 0 := by omega
    have hl := Nat.log2_self_le hm
    have hu := Nat.lt_log2_self (n := n.natAbs)
    have hk : n.natAbs.log2 < 53 := (Nat.log2_lt hm).2 (by omega)
    have hw : floatOfInt .f64 n = w64 (decide (n < 0)) (n.natAbs.log2 + 1023) (n.natAbs * 2 ^ (52 - n.natAbs.log2) - 2 ^ 52) := by
      show double.nearest (decide (n < 0)) n.natAbs 0 = _
      rw [write64 hl hu (by omega) (by omega) (by omega)]
      congr 1
      omega
    have hlo : 2 ^ 52 ≤ n.natAbs * 2 ^ (52 - n.natAbs.log2) := by
      have := Nat.mul_le_mul_right (2 ^ (52 - n.natAbs.log2)) hl
      rwa [← Nat.pow_add, show n.natAbs.log2 + (52 - n.natAbs.log2) = 52 by omega] at this
    have hhi : n.natAbs * 2 ^ (52 - n.natAbs.log2) < 2 ^ 53 := by
      have := Nat.mul_lt_mul_of_pos_right hu (Nat.two_pow_pos (52 - n.natAbs.log2))
      rwa [← Nat.pow_add, show n.natAbs.log2 + 1 + (52 - n.natAbs.log2) = 53 by omega] at this
    obtain ⟨a, b, c⟩ := fv_w64 (decide (n < 0)) (n.natAbs.log2 + 1023) (n.natAbs * 2 ^ (52 - n.natAbs.log2) - 2 ^ 52) (by omega) (by omega) (by omega)
    rw [hw]
    refine ⟨?_, b, c⟩
    rw [a, ← sval_int n 1074]
    unfold sval
    have : (n.natAbs * 2 ^ (52 - n.natAbs.log2) - 2 ^ 52 + 2 ^ 52) * 2 ^ (n.natAbs.log2 + 1023 - 1) = n.natAbs * 2 ^ 1074 := by
      rw [Nat.sub_add_cancel hlo, Nat.mul_assoc, ← Nat.pow_add]
      rw [show 52 - n.natAbs.log2 + (n.natAbs.log2 + 1023 - 1) = 1074 from by omega]
    rw [this]

/-- a number's keys: its real part, its imaginary part -/
def key1 (s : Sc) : Int := if s.kind < 7 then s.int * ((2 ^ 1074 : Nat) : Int) else if s.kind < 12 then (s.uint : Int) * ((2 ^ 1074 : Nat) : Int) else fv s.a
def key2 (s : Sc) : Int := if 14 ≤ s.kind then fv s.b else 0

theorem part1 {s : Sc} (hw : s.wf) (hk : (parts s).2.2 = true) : ∃ neg m e, (parts s).1 = nrm neg m e ∧ m < 2 ^ 64 ∧ -1074 ≤ e ∧ sval neg m (e - -1074).toNat = key1 s := by
  have i0 := hw.i0
  have i1 := hw.i1
  have u1 := hw.u1
  unfold parts key1 at *
  by_cases h1 : s.kind < 7
  · simp only [if_pos h1]
    exact ⟨_, _, _, rfl, by omega, by decide, sval_int s.int 1074⟩
  · simp only [if_neg h1] at *
    by_cases h2 : s.kind < 12
    · simp only [if_pos h2]
      exact ⟨_, _, _, rfl, by omega, by decide, sval_nat s.uint 1074⟩
    · simp only [if_neg h2] at *
      by_cases h3 : 14 ≤ s.kind
      · simp only [if_pos h3] at *
        rw [Bool.and_eq_true] at hk
        exact ofFlt_fv hk.1
      · simp only [if_neg h3] at *
        exact ofFlt_fv hk

theorem part2 {s : Sc} (hk : (parts s).2.2 = true) : ∃ neg m e, (parts s).2.1 = nrm neg m e ∧ m < 2 ^ 64 ∧ -1074 ≤ e ∧ sval neg m (e - -1074).toNat = key2 s := by
  have hz : sval false 0 ((0 : Int) - -1074).toNat = 0 := by unfold sval; rw [if_neg (by decide), Nat.zero_mul]; rfl
  unfold parts key2 at *
  by_cases h1 : s.kind < 7
  · simp only [if_pos h1, if_neg (show ¬ 14 ≤ s.kind by omega)]
    exact ⟨false, 0, 0, rfl, by decide, by decide, hz⟩
  · simp only [if_neg h1] at *
    by_cases h2 : s.kind < 12
    · simp only [if_pos h2, if_neg (show ¬ 14 ≤ s.kind by omega)]
      exact ⟨false, 0, 0, rfl, by decide, by decide, hz⟩
    · simp only [if_neg h2] at *
      by_cases h3 : 14 ≤ s.kind
      · simp only [if_pos h3] at *
        rw [Bool.and_eq_true] at hk
        exact ofFlt_fv hk.2
      · simp only [if_neg h3] at *
        exact ⟨false, 0, 0, rfl, by decide, by decide, hz⟩

theorem less1 {s t : Sc} (hs : s.wf) (ht : t.wf) (ks : (parts s).2.2 = true) (kt : (parts t).2.2 = true) : lessN (parts s).1 (parts t).1 = cmpI (key1 s) (key1 t) := by
  obtain ⟨n1, m1, e1, h1, h2, h3, h4⟩ := part1 hs ks
  obtain ⟨n2, m2, e2, g1, g2, g3, g4⟩ := part1 ht kt
  rw [h1, g1, less_nrm n1 n2 m1 m2 e1 e2 (-1074) h2 g2 h3 g3, h4, g4]
theorem less2 {s t : Sc} (ks : (parts s).2.2 = true) (kt : (parts t).2.2 = true) : lessN (parts s).2.1 (parts t).2.1 = cmpI (key2 s) (key2 t) := by
  obtain ⟨n1, m1, e1, h1, h2, h3, h4⟩ := part2 ks
  obtain ⟨n2, m2, e2, g1, g2, g3, g4⟩ := part2 kt
  rw [h1, g1, less_nrm n1 n2 m1 m2 e1 e2 (-1074) h2 g2 h3 g3, h4, g4]

end Go.Proofs.YtaoonpncnahhgaaDoor

namespace Go.Proofs.YtaoonpncnahhgaaDoor
open Ieee Flt Go.RowKit

/-- the order of two pairs of keys -/
def cmp2 (a b c d : Int) : Int := if cmpI a b ≠ 0 then cmpI a b else cmpI c d
theorem cmp2_self (a b : Int) : cmp2 a b 0 0 = cmpI a b := by
  unfold cmp2
  by_cases h : cmpI a b = 0
  · rw [if_neg (by simpa using h), h]; rfl
  · rw [if_pos h]

theorem ordC_eq (a b c d : Nat) : ordC a b c d = if ordF a c ≠ 0 then ordF a c else ordF b d := by
  unfold ordC
  rcases h : FloatKind.f64.format.order a c with _ | (_ | _ | _) <;> simp [ordF, h]

theorem ordC_fv {a b c d : Nat} (ha : a < 18446744073709551616) (hb : b < 18446744073709551616) (hc : c < 18446744073709551616) (hd : d < 18446744073709551616) (oa : (ofFlt a).2 = true) (ob : (ofFlt b).2 = true) (oc : (ofFlt c).2 = true) (od : (ofFlt d).2 = true) :
    ordC a b c d = cmp2 (fv a) (fv c) (fv b) (fv d) := by
  rw [ordC_eq, ordF_fv ha hc oa oc, ordF_fv hb hd ob od]; rfl

theorem cmpS_num {s t : Sc} (hs : s.wf) (ht : t.wf) (cs : classOf s.kind = 2) (ct : classOf t.kind = 2) (ks : (parts s).2.2 = true) (kt : (parts t).2.2 = true) : cmpS s t = cmp2 (key1 s) (key1 t) (key2 s) (key2 t) := by
  unfold cmpS cmp2
  rw [cs, ct, less1 hs ht ks kt, less2 ks kt]
  simp

/-- what the scalars are, made alike -/
inductive Shape (s : Sc) : AV → Prop
  | nil (h : s.kind = 0) : Shape s .nil
  | bool (h : s.kind = 1) : Shape s (.bool (s.int != 0))
  | i64 (h : 2 ≤ s.kind) (h2 : s.kind < 7) : Shape s (.i64 s.int)
  | u64 (h : 7 ≤ s.kind) (h2 : s.kind < 12) : Shape s (.u64 s.uint)
  | f64 (h : 12 ≤ s.kind) (h2 : s.kind < 14) : Shape s (.f64 s.a)
  | c128 (h : 14 ≤ s.kind) (h2 : s.kind < 16) : Shape s (.c128 s.a s.b)
  | byt (h : s.kind = 16) : Shape s (.byt s.bytes)
  | str (h : s.kind = 17) : Shape s (.str s.bytes)

theorem shape {s : Sc} (h0 : 0 ≤ s.kind) (h1 : s.kind ≤ 17) : Shape s (ctOf (avS s)) := by
  obtain ⟨kd, it, u, fa, fb, ba, bn, bc, bs⟩ := s
  simp only at h0 h1
  obtain rfl | rfl | rfl | rfl | rfl | rfl | rfl | rfl | rfl | rfl | rfl | rfl | rfl | rfl | rfl | rfl | rfl | rfl : kd = 0 ∨ kd = 1 ∨ kd = 2 ∨ kd = 3 ∨ kd = 4 ∨ kd = 5 ∨ kd = 6 ∨ kd = 7 ∨ kd = 8 ∨ kd = 9 ∨ kd = 10 ∨ kd = 11 ∨ kd = 12 ∨ kd = 13 ∨ kd = 14 ∨ kd = 15 ∨ kd = 16 ∨ kd = 17 := by omega
  · exact .nil rfl
  · exact .bool rfl
  · exact .i64 (by simp) (by simp)
  · exact .i64 (by simp) (by simp)
  · exact .i64 (by simp) (by simp)
  · exact .i64 (by simp) (by simp)
  · exact .i64 (by simp) (by simp)
  · exact .u64 (by simp) (by simp)
  · exact .u64 (by simp) (by simp)
  · exact .u64 (by simp) (by simp)
  · exact .u64 (by simp) (by simp)
  · exact .u64 (by simp) (by simp)
  · exact .f64 (by simp) (by simp)
  · exact .f64 (by simp) (by simp)
  · exact .c128 (by simp) (by simp)
  · exact .c128 (by simp) (by simp)
  · exact .byt rfl
  · exact .str rfl

theorem class0 {k : Int} (h : k = 0) : classOf k = 0 := by subst h; rfl
theorem class1 {k : Int} (h : k = 1) : classOf k = 1 := by subst h; rfl
theorem class2 {k : Int} (h : 2 ≤ k) (h2 : k < 16) : classOf k = 2 := by unfold classOf; rw [if_neg (by omega), if_neg (by omega), if_pos h2]
theorem class3 {k : Int} (h : k = 16) : classOf k = 3 := by subst h; rfl
theorem class4 {k : Int} (h : k = 17) : classOf k = 4 := by subst h; rfl

theorem cmpS_lt {s t : Sc} (h : classOf s.kind < classOf t.kind) : cmpS s t = -1 := by unfold cmpS; rw [if_pos h]
theorem cmpS_gt {s t : Sc} (h : classOf t.kind < classOf s.kind) : cmpS s t = 1 := by unfold cmpS; rw [if_neg (by omega), if_pos h]

/-- a number that the two orders see alike: its keys, and what it is as a float -/
structure Fit (s : Sc) : Prop where
  wf : s.wf
  ok : OkFacts s
  num : classOf s.kind = 2 → (parts s).2.2 = true

theorem Fit.fa {s : Sc} (h : Fit s) (h1 : 12 ≤ s.kind) (h2 : s.kind < 16) : (ofFlt s.a).2 = true := by
  have := h.num (class2 (by omega) h2)
  unfold parts at this
  rw [if_neg (by omega), if_neg (by omega)] at this
  by_cases h3 : 14 ≤ s.kind
  · rw [if_pos h3] at this
    exact (Bool.and_eq_true _ _ ▸ this).1
  · rw [if_neg h3] at this
    exact this
theorem Fit.fb {s : Sc} (h : Fit s) (h1 : 14 ≤ s.kind) (h2 : s.kind < 16) : (ofFlt s.b).2 = true := by
  have := h.num (class2 (by omega) h2)
  unfold parts at this
  rw [if_neg (by omega), if_neg (by omega), if_pos h1] at this
  exact (Bool.and_eq_true _ _ ▸ this).2

theorem key1_i {s : Sc} (h : s.kind < 7) : key1 s = s.int * ((2 ^ 1074 : Nat) : Int) := by unfold key1; rw [if_pos h]
theorem key1_u {s : Sc} (h : 7 ≤ s.kind) (h2 : s.kind < 12) : key1 s = (s.uint : Int) * ((2 ^ 1074 : Nat) : Int) := by unfold key1; rw [if_neg (by omega), if_pos h2]
theorem key1_f {s : Sc} (h : 12 ≤ s.kind) : key1 s = fv s.a := by unfold key1; rw [if_neg (by omega), if_neg (by omega)]
theorem key2_0 {s : Sc} (h : s.kind < 14) : key2 s = 0 := by unfold key2; rw [if_neg (by omega)]
theorem key2_c {s : Sc} (h : 14 ≤ s.kind) : key2 s = fv s.b := by unfold key2; rw [if_pos h]

/-- neither is beyond 2^53 where the other is no integer kind's -/
def Plain2 (s t : Sc) : Prop := (greatS s = false ∧ greatS t = false) ∨ (realS s = false ∧ realS t = false)

theorem great_i {s : Sc} (h : greatS s = false) (h1 : 2 ≤ s.kind) (h2 : s.kind < 7) : -9007199254740992 ≤ s.int ∧ s.int ≤ 9007199254740992 := by
  unfold greatS at h
  rw [class2 h1 (by omega), if_pos h2] at h
  simp at h
  omega
theorem great_u {s : Sc} (h : greatS s = false) (h1 : 7 ≤ s.kind) (h2 : s.kind < 12) : -9007199254740992 ≤ (s.uint : Int) ∧ (s.uint : Int) ≤ 9007199254740992 := by
  unfold greatS at h
  rw [class2 (by omega) (by omega), if_neg (by omega)] at h
  simp [h2] at h
  omega
theorem real_no {s : Sc} (h1 : 12 ≤ s.kind) (h2 : s.kind < 16) : realS s = true := by
  unfold realS
  rw [class2 (by omega) h2]
  simpa using h1
theorem Plain2.l {s t : Sc} (h : Plain2 s t) (h1 : 12 ≤ t.kind) (h2 : t.kind < 16) : greatS s = false := by
  rcases h with h | h
  · exact h.1
  · rw [real_no h1 h2] at h; cases h.2
theorem Plain2.r {s t : Sc} (h : Plain2 s t) (h1 : 12 ≤ s.kind) (h2 : s.kind < 16) : greatS t = false := by
  rcases h with h | h
  · exact h.2
  · rw [real_no h1 h2] at h; cases h.1

theorem two_pos : 0 < 2 ^ 1074 := Nat.two_pow_pos 1074

end Go.Proofs.YtaoonpncnahhgaaDoor

namespace Go.Proofs.YtaoonpncnahhgaaDoor
open Ieee Flt Go.RowKit

theorem cmpA_num {s t : Sc} (hs : Fit s) (ht : Fit t) (hp : Plain2 s t) (c1 : 2 ≤ s.kind) (c2 : s.kind < 16) (d1 : 2 ≤ t.kind) (d2 : t.kind < 16) :
    cmpA (ctOf (avS s)) (ctOf (avS t)) = cmp2 (key1 s) (key1 t) (key2 s) (key2 t) := by
  have S := shape hs.ok.k0 hs.ok.k1
  have T := shape ht.ok.k0 ht.ok.k1
  have sa := hs.wf.a1
  have sb := hs.wf.b1
  have ta := ht.wf.a1
  have tb := ht.wf.b1
  have si := fun h1 h2 => great_i (s := s) h1 c1 h2
  have su := fun h1 h2 h3 => great_u (s := s) h1 h2 h3
  generalize ctOf (avS s) = x at *
  generalize ctOf (avS t) = y at *
  cases S
  case nil h => omega
  case bool h => omega
  case byt h => omega
  case str h => omega
  case i64 h h' =>
    rw [key1_i h', key2_0 (s := s) (by omega)]
    cases T
    case nil h => omega
    case bool h => omega
    case byt h => omega
    case str h => omega
    case i64 g g' =>
      rw [key1_i g', key2_0 (s := t) (by omega), cmp2_self, cmpI_mul _ _ _ two_pos]; rfl
    case u64 g g' =>
      rw [key1_u g g', key2_0 (s := t) (by omega), cmp2_self, cmpI_mul _ _ _ two_pos]; rfl
    case f64 g g' =>
      have r := great_i (hp.l g d2) h h'
      obtain ⟨e1, e2, e3⟩ := near_fv s.int r.1 r.2
      rw [key1_f g, key2_0 (s := t) (by omega), cmp2_self, ← e1]
      exact ordF_fv e3 ta e2 (ht.fa g d2)
    case c128 g g' =>
      have r := great_i (hp.l (by omega) d2) h h'
      obtain ⟨e1, e2, e3⟩ := near_fv s.int r.1 r.2
      rw [key1_f (by omega), key2_c g, ← e1, ← fv_zero]
      exact ordC_fv e3 (by decide) ta tb e2 ok_zero (ht.fa (by omega) d2) (ht.fb g d2)
  case u64 h h' =>
    rw [key1_u h h', key2_0 (s := s) (by omega)]
    cases T
    case nil h => omega
    case bool h => omega
    case byt h => omega
    case str h => omega
    case i64 g g' =>
      rw [key1_i g', key2_0 (s := t) (by omega), cmp2_self, cmpI_mul _ _ _ two_pos]; rfl
    case u64 g g' =>
      rw [key1_u g g', key2_0 (s := t) (by omega), cmp2_self, cmpI_mul _ _ _ two_pos]; rfl
    case f64 g g' =>
      have r := great_u (hp.l g d2) h h'
      obtain ⟨e1, e2, e3⟩ := near_fv (s.uint : Int) r.1 r.2
      rw [key1_f g, key2_0 (s := t) (by omega), cmp2_self, ← e1]
      exact ordF_fv e3 ta e2 (ht.fa g d2)
    case c128 g g' =>
      have r := great_u (hp.l (by omega) d2) h h'
      obtain ⟨e1, e2, e3⟩ := near_fv (s.uint : Int) r.1 r.2
      rw [key1_f (by omega), key2_c g, ← e1, ← fv_zero]
      exact ordC_fv e3 (by decide) ta tb e2 ok_zero (ht.fa (by omega) d2) (ht.fb g d2)
  case f64 h h' =>
    rw [key1_f h, key2_0 (s := s) (by omega)]
    cases T
    case nil h => omega
    case bool h => omega
    case byt h => omega
    case str h => omega
    case i64 g g' =>
      have r := great_i (hp.r h c2) g g'
      obtain ⟨e1, e2, e3⟩ := near_fv t.int r.1 r.2
      rw [key1_i g', key2_0 (s := t) (by omega), cmp2_self, ← e1]
      exact ordF_fv sa e3 (hs.fa h c2) e2
    case u64 g g' =>
      have r := great_u (hp.r h c2) g g'
      obtain ⟨e1, e2, e3⟩ := near_fv (t.uint : Int) r.1 r.2
      rw [key1_u g g', key2_0 (s := t) (by omega), cmp2_self, ← e1]
      exact ordF_fv sa e3 (hs.fa h c2) e2
    case f64 g g' =>
      rw [key1_f g, key2_0 (s := t) (by omega), cmp2_self]
      exact ordF_fv sa ta (hs.fa h c2) (ht.fa g d2)
    case c128 g g' =>
      rw [key1_f (by omega), key2_c g, ← fv_zero]
      exact ordC_fv sa (by decide) ta tb (hs.fa h c2) ok_zero (ht.fa (by omega) d2) (ht.fb g d2)
  case c128 h h' =>
    rw [key1_f (s := s) (by omega), key2_c h]
    cases T
    case nil h => omega
    case bool h => omega
    case byt h => omega
    case str h => omega
    case i64 g g' =>
      have r := great_i (hp.r (by omega) c2) g g'
      obtain ⟨e1, e2, e3⟩ := near_fv t.int r.1 r.2
      rw [key1_i g', key2_0 (s := t) (by omega), ← e1, ← fv_zero]
      exact ordC_fv sa sb e3 (by decide) (hs.fa (by omega) c2) (hs.fb h c2) e2 ok_zero
    case u64 g g' =>
      have r := great_u (hp.r (by omega) c2) g g'
      obtain ⟨e1, e2, e3⟩ := near_fv (t.uint : Int) r.1 r.2
      rw [key1_u g g', key2_0 (s := t) (by omega), ← e1, ← fv_zero]
      exact ordC_fv sa sb e3 (by decide) (hs.fa (by omega) c2) (hs.fb h c2) e2 ok_zero
    case f64 g g' =>
      rw [key1_f g, key2_0 (s := t) (by omega), ← fv_zero]
      exact ordC_fv sa sb ta (by decide) (hs.fa (by omega) c2) (hs.fb h c2) (ht.fa g d2) ok_zero
    case c128 g g' =>
      rw [key1_f (by omega), key2_c g]
      exact ordC_fv sa sb ta tb (hs.fa (by omega) c2) (hs.fb h c2) (ht.fa (by omega) d2) (ht.fb g d2)

theorem cmpS_bool {s t : Sc} (hs : s.int = 0 ∨ s.int = 1) (ht : t.int = 0 ∨ t.int = 1) (h : s.kind = 1) (g : t.kind = 1) : cmpS s t = cmpB (s.int != 0) (t.int != 0) := by
  unfold cmpS
  rw [h, g, show classOf 1 = 1 from rfl]
  simp only [Int.lt_irrefl, if_false, if_true, show ((1 : Int) = 0) = False from by simp]
  rw [less_nat _ _ (by unfold u64; omega) (by unfold u64; omega)]
  rcases hs with e | e <;> rcases ht with f | f <;> rw [e, f] <;> decide

theorem cmpS_bytes {s t : Sc} {c : Int} (h : classOf s.kind = c) (g : classOf t.kind = c) (hc : 2 < c) : cmpS s t = bytesCmp s.bytes t.bytes := by
  unfold cmpS
  rw [h, g, if_neg (by omega), if_neg (by omega), if_neg (by omega), if_neg (by omega), if_pos hc]

/-- ████ the package's order of two values is the reference's -/
theorem cmp_link {s t : Sc} (hs : Fit s) (ht : Fit t) (hp : Plain2 s t) : cmpA (ctOf (avS s)) (ctOf (avS t)) = cmpS s t := by
  by_cases hn : (2 ≤ s.kind ∧ s.kind < 16) ∧ (2 ≤ t.kind ∧ t.kind < 16)
  · obtain ⟨⟨a, b⟩, c, d⟩ := hn
    rw [cmpA_num hs ht hp a b c d, cmpS_num hs.wf ht.wf (class2 a b) (class2 c d) (hs.num (class2 a b)) (ht.num (class2 c d))]
  · have S := shape hs.ok.k0 hs.ok.k1
    have T := shape ht.ok.k0 ht.ok.k1
    have bs := hs.ok.bo
    have bt := ht.ok.bo
    have lt : ∀ {a b : Int}, classOf s.kind = a → classOf t.kind = b → a < b → (-1 : Int) = cmpS s t := fun h1 h2 h3 => (cmpS_lt (by rw [h1, h2]; exact h3)).symm
    have gt : ∀ {a b : Int}, classOf s.kind = a → classOf t.kind = b → b < a → (1 : Int) = cmpS s t := fun h1 h2 h3 => (cmpS_gt (by rw [h1, h2]; exact h3)).symm
    generalize ctOf (avS s) = x at *
    generalize ctOf (avS t) = y at *
    cases S <;> cases T
    case nil.nil h g => show (0 : Int) = _; unfold cmpS; rw [h, g]; rfl
    case bool.bool h g => exact (cmpS_bool (bs h) (bt g) h g).symm
    case byt.byt h g => exact (cmpS_bytes (class3 h) (class3 g) (by decide)).symm
    case str.str h g => exact (cmpS_bytes (class4 h) (class4 g) (by decide)).symm
    all_goals first
      | (exfalso; apply hn; constructor <;> constructor <;> omega)
      | (rename_i h g; first
          | exact lt (class0 h) (class1 g) (by decide) | exact lt (class0 h) (class3 g) (by decide) | exact lt (class0 h) (class4 g) (by decide)
          | exact gt (class1 h) (class0 g) (by decide) | exact lt (class1 h) (class3 g) (by decide) | exact lt (class1 h) (class4 g) (by decide)
          | exact gt (class3 h) (class0 g) (by decide) | exact gt (class3 h) (class1 g) (by decide) | exact lt (class3 h) (class4 g) (by decide)
          | exact gt (class4 h) (class0 g) (by decide) | exact gt (class4 h) (class1 g) (by decide) | exact gt (class4 h) (class3 g) (by decide))
      | (rename_i h g g'; first
          | exact lt (class0 h) (class2 (by omega) (by omega)) (by decide) | exact lt (class1 h) (class2 (by omega) (by omega)) (by decide)
          | exact gt (class3 h) (class2 (by omega) (by omega)) (by decide) | exact gt (class4 h) (class2 (by omega) (by omega)) (by decide))
      | (rename_i h h' g; first
          | exact gt (class2 (by omega) (by omega)) (class0 g) (by decide) | exact gt (class2 (by omega) (by omega)) (class1 g) (by decide)
          | exact lt (class2 (by omega) (by omega)) (class3 g) (by decide) | exact lt (class2 (by omega) (by omega)) (class4 g) (by decide))

end Go.Proofs.YtaoonpncnahhgaaDoor

namespace Go.Proofs.YtaoonpncnahhgaaDoor
open Ieee Flt Go.RowKit

/-- three comparisons of a chain -/
def T3 (a b c : Int) : Prop := a ≤ 0 → b ≤ 0 → c ≤ 0 ∧ (c = 0 → a = 0 ∧ b = 0)

theorem cmpI_T (a b c : Int) : T3 (cmpI a b) (cmpI b c) (cmpI a c) := by
  unfold T3 cmpI
  intro h1 h2
  split at h1 <;> split at h2 <;> (try split at h1) <;> (try split at h2) <;> split <;> (try split) <;> omega

theorem cmp2_swap (a b c d : Int) : cmp2 b a d c = - cmp2 a b c d := by
  unfold cmp2
  rw [cmpI_swap a b, cmpI_swap c d]
  split <;> split <;> omega
theorem cmp2_T (a b c p q r : Int) : T3 (cmp2 a b p q) (cmp2 b c q r) (cmp2 a c p r) := by
  have h1 := cmpI_T a b c
  have h2 := cmpI_T p q r
  have h3 := cmpI_T c b a
  rw [cmpI_swap b c, cmpI_swap a b, cmpI_swap a c] at h3
  unfold T3 cmp2 at *
  generalize cmpI a b = u at *
  generalize cmpI b c = v at *
  generalize cmpI a c = t at *
  generalize cmpI p q = u2 at *
  generalize cmpI q r = v2 at *
  generalize cmpI p r = t2 at *
  by_cases e1 : u = 0 <;> by_cases e2 : v = 0 <;> by_cases e3 : t = 0 <;> simp only [e1, e2, e3, ne_eq, not_true_eq_false, not_false_eq_true, if_true, if_false] <;> exact fun h4 h5 => ⟨by omega, fun h6 => ⟨by first | omega | exact False.elim h6, by first | omega | exact False.elim h6⟩⟩

theorem bytesCmp_swap : ∀ xs ys : List UInt8, bytesCmp ys xs = - bytesCmp xs ys
  | [], [] => rfl
  | [], _ :: _ => rfl
  | _ :: _, [] => rfl
  | x :: xs, y :: ys => by
    unfold bytesCmp
    have e : ∀ a b : UInt8, a < b ↔ a.toNat < b.toNat := fun _ _ => UInt8.lt_iff_toNat_lt
    rw [bytesCmp_swap xs ys]
    simp only [e]
    split <;> split <;> omega
theorem bytesCmp_T : ∀ xs ys zs : List UInt8, T3 (bytesCmp xs ys) (bytesCmp ys zs) (bytesCmp xs zs)
  | [], [], [] => by unfold T3 bytesCmp; omega
  | [], [], _ :: _ => by unfold T3 bytesCmp; omega
  | [], _ :: _, [] => by unfold T3 bytesCmp; omega
  | [], _ :: _, _ :: _ => by unfold T3; simp only [bytesCmp]; omega
  | _ :: _, [], [] => by unfold T3 bytesCmp; omega
  | _ :: _, [], _ :: _ => by unfold T3; simp only [bytesCmp]; omega
  | _ :: _, _ :: _, [] => by unfold T3; simp only [bytesCmp]; omega
  | x :: xs, y :: ys, z :: zs => by
    have e : ∀ a b : UInt8, a < b ↔ a.toNat < b.toNat := fun _ _ => UInt8.lt_iff_toNat_lt
    have ih := bytesCmp_T xs ys zs
    unfold T3 at *
    simp only [bytesCmp, e]
    generalize bytesCmp xs ys = u at *
    generalize bytesCmp ys zs = v at *
    generalize bytesCmp xs zs = t at *
    generalize x.toNat = a
    generalize y.toNat = b
    generalize z.toNat = c
    intro h1 h2
    split at h1 <;> split at h2 <;> (try split at h1) <;> (try split at h2) <;> split <;> (try split) <;> omega

/-- what cmpS is, class by class -/
theorem cmpS_cases {s t : Sc} (hs : Fit s) (ht : Fit t) (h : classOf s.kind = classOf t.kind) :
    (classOf s.kind = 0 ∧ cmpS s t = 0) ∨ (classOf s.kind = 1 ∧ cmpS s t = cmpI s.int t.int) ∨ (classOf s.kind = 2 ∧ cmpS s t = cmp2 (key1 s) (key1 t) (key2 s) (key2 t)) ∨ (2 < classOf s.kind ∧ cmpS s t = bytesCmp s.bytes t.bytes) := by
  have k0 := hs.ok.k0
  have k1 := hs.ok.k1
  have l0 := ht.ok.k0
  have l1 := ht.ok.k1
  rcases class_tri s.kind with c | c | c | c
  · refine .inl ⟨c, ?_⟩
    unfold cmpS; rw [← h, c]; rfl
  · refine .inr (.inl ⟨c, ?_⟩)
    have e1 : s.kind = 1 := by unfold classOf at c; split at c <;> (try split at c) <;> (try split at c) <;> (try split at c) <;> omega
    have e2 : t.kind = 1 := by rw [h] at c; unfold classOf at c; split at c <;> (try split at c) <;> (try split at c) <;> (try split at c) <;> omega
    rw [cmpS_bool (hs.ok.bo e1) (ht.ok.bo e2) e1 e2]
    rcases hs.ok.bo e1 with e | e <;> rcases ht.ok.bo e2 with f | f <;> rw [e, f] <;> decide
  · exact .inr (.inr (.inl ⟨c, cmpS_num hs.wf ht.wf c (h ▸ c) (hs.num c) (ht.num (h ▸ c))⟩))
  · exact .inr (.inr (.inr ⟨c, cmpS_bytes rfl h.symm c⟩))

theorem cmpS_swap {s t : Sc} (hs : Fit s) (ht : Fit t) : cmpS t s = - cmpS s t := by
  rcases Int.lt_trichotomy (classOf s.kind) (classOf t.kind) with h | h | h
  · rw [cmpS_lt h, cmpS_gt h]; rfl
  · rcases cmpS_cases hs ht h with ⟨c, e⟩ | ⟨c, e⟩ | ⟨c, e⟩ | ⟨c, e⟩ <;> rcases cmpS_cases ht hs h.symm with ⟨d, f⟩ | ⟨d, f⟩ | ⟨d, f⟩ | ⟨d, f⟩ <;> first
      | (exfalso; omega)
      | (rw [e, f]; first | rfl | exact cmpI_swap _ _ | exact cmp2_swap _ _ _ _ | exact bytesCmp_swap _ _)
  · rw [cmpS_lt h, cmpS_gt h]

theorem cmpS_T {s t r : Sc} (hs : Fit s) (ht : Fit t) (hr : Fit r) : T3 (cmpS s t) (cmpS t r) (cmpS s r) := by
  rcases Int.lt_trichotomy (classOf s.kind) (classOf t.kind) with h | h | h
  · rcases Int.lt_trichotomy (classOf t.kind) (classOf r.kind) with g | g | g
    · rw [cmpS_lt (show classOf s.kind < classOf r.kind by omega)]; unfold T3; omega
    · rw [cmpS_lt (show classOf s.kind < classOf r.kind by omega)]; unfold T3; omega
    · rw [cmpS_gt g]; unfold T3; omega
  · rcases Int.lt_trichotomy (classOf t.kind) (classOf r.kind) with g | g | g
    · rw [cmpS_lt (show classOf s.kind < classOf r.kind by omega), cmpS_lt g]; unfold T3; omega
    · rcases cmpS_cases hs ht h with ⟨c, e⟩ | ⟨c, e⟩ | ⟨c, e⟩ | ⟨c, e⟩ <;> rcases cmpS_cases ht hr g with ⟨d, f⟩ | ⟨d, f⟩ | ⟨d, f⟩ | ⟨d, f⟩ <;> first
        | (exfalso; omega)
        | (rcases cmpS_cases hs hr (h.trans g) with ⟨d2, f2⟩ | ⟨d2, f2⟩ | ⟨d2, f2⟩ | ⟨d2, f2⟩ <;> first
            | (exfalso; omega)
            | (rw [e, f, f2]; first | (unfold T3; omega) | exact cmpI_T _ _ _ | exact cmp2_T _ _ _ _ _ _ | exact bytesCmp_T _ _ _))
    · rw [cmpS_gt g]; unfold T3; omega
  · rw [cmpS_gt h]; unfold T3; omega

theorem colS_swap : ∀ xs ys : List Sc, (∀ s ∈ xs, Fit s) → (∀ s ∈ ys, Fit s) → colS ys xs = - colS xs ys
  | [], [], _, _ => rfl
  | [], _ :: _, _, _ => rfl
  | _ :: _, [], _, _ => rfl
  | x :: xs, y :: ys, hx, hy => by
    unfold colS
    rw [cmpS_swap (hx x (by simp)) (hy y (by simp)), colS_swap xs ys (fun s h => hx s (by simp [h])) (fun s h => hy s (by simp [h]))]
    split <;> split <;> omega

theorem colS_T : ∀ xs ys zs : List Sc, (∀ s ∈ xs, Fit s) → (∀ s ∈ ys, Fit s) → (∀ s ∈ zs, Fit s) → T3 (colS xs ys) (colS ys zs) (colS xs zs)
  | [], [], [], _, _, _ => by unfold T3 colS; omega
  | [], [], _ :: _, _, _, _ => by unfold T3 colS; omega
  | [], _ :: _, [], _, _, _ => by unfold T3 colS; omega
  | [], _ :: _, _ :: _, _, _, _ => by unfold T3; simp only [colS]; omega
  | _ :: _, [], [], _, _, _ => by unfold T3 colS; omega
  | _ :: _, [], _ :: _, _, _, _ => by unfold T3; simp only [colS]; omega
  | _ :: _, _ :: _, [], _, _, _ => by unfold T3; simp only [colS]; omega
  | x :: xs, y :: ys, z :: zs, hx, hy, hz => by
    have fx := hx x (by simp)
    have fy := hy y (by simp)
    have fz := hz z (by simp)
    have h1 := cmpS_T fx fy fz
    have h3 := cmpS_T fz fy fx
    rw [cmpS_swap fy fz, cmpS_swap fx fy, cmpS_swap fx fz] at h3
    have ih := colS_T xs ys zs (fun s h => hx s (by simp [h])) (fun s h => hy s (by simp [h])) (fun s h => hz s (by simp [h]))
    unfold T3 at *
    simp only [colS]
    generalize cmpS x y = u at *
    generalize cmpS y z = v at *
    generalize cmpS x z = t at *
    generalize colS xs ys = u2 at *
    generalize colS ys zs = v2 at *
    generalize colS xs zs = t2 at *
    by_cases e1 : u = 0 <;> by_cases e2 : v = 0 <;> by_cases e3 : t = 0 <;> simp only [e1, e2, e3, ne_eq, not_true_eq_false, not_false_eq_true, if_true, if_false] <;> exact fun h4 h5 => ⟨by omega, fun h6 => ⟨by first | omega | exact False.elim h6, by first | omega | exact False.elim h6⟩⟩

/-- no pair of scalars of two lists is unfit -/
def Plains (xs ys : List Sc) : Prop := ∀ s ∈ xs, ∀ t ∈ ys, Plain2 s t

theorem lexA_link : ∀ xs ys : List Sc, (∀ s ∈ xs, Fit s) → (∀ s ∈ ys, Fit s) → Plains xs ys → lexA (xs.map avS) (ys.map avS) = colS xs ys
  | [], [], _, _, _ => rfl
  | [], _ :: _, _, _, _ => rfl
  | _ :: _, [], _, _, _ => rfl
  | x :: xs, y :: ys, hx, hy, hp => by
    simp only [List.map_cons, lexA, colS]
    rw [cmp_link (hx x (by simp)) (hy y (by simp)) (hp x (by simp) y (by simp)), lexA_link xs ys (fun s h => hx s (by simp [h])) (fun s h => hy s (by simp [h])) (fun s h t h' => hp s (by simp [h]) t (by simp [h']))]
    by_cases h : cmpS x y = 0 <;> simp [h]

theorem Plains.swap {xs ys : List Sc} (h : Plains xs ys) : Plains ys xs := fun s hs t ht => (h t ht s hs).imp And.symm And.symm

/-- ████ the package's order of two lists is the reference's -/
theorem col_link {xs ys : List Sc} (hx : ∀ s ∈ xs, Fit s) (hy : ∀ s ∈ ys, Fit s) (hp : Plains xs ys) : colA (xs.map avS) (ys.map avS) = colS xs ys := by
  unfold colA
  rw [lexA_link xs ys hx hy hp, lexA_link ys xs hy hx hp.swap, colS_swap xs ys hx hy]
  split <;> omega

theorem plains_of {Ls : List (List Sc)} (h : mixedB Ls = false) {xs ys : List Sc} (hx : xs ∈ Ls) (hy : ys ∈ Ls) : Plains xs ys := by
  unfold mixedB at h
  rw [Bool.and_eq_false_iff] at h
  intro s hs t ht
  rcases h with h | h
  · rw [List.any_eq_false] at h
    have a := h xs hx
    have b := h ys hy
    simp only [Bool.not_eq_true, List.any_eq_false] at a b
    exact .inl ⟨by simpa using a s hs, by simpa using b t ht⟩
  · rw [List.any_eq_false] at h
    have a := h xs hx
    have b := h ys hy
    simp only [Bool.not_eq_true, List.any_eq_false] at a b
    exact .inr ⟨by simpa using a s hs, by simpa using b t ht⟩

theorem fit_of {L : List Sc} (hw : ∀ s ∈ L, s.wf) (h : okB L = true) : ∀ s ∈ L, Fit s := by
  unfold okB at h
  simp only [Bool.and_eq_true] at h
  intro s hs
  have h1 := List.all_eq_true.1 h.1 s hs
  have h2 : (!(classOf s.kind == 2) || (parts s).2.2) = true := List.all_eq_true.1 h.2.2 s hs
  refine ⟨hw s hs, okFacts (hw s hs) h1, fun c => ?_⟩
  rw [c] at h2
  simpa using h2

end Go.Proofs.YtaoonpncnahhgaaDoor
