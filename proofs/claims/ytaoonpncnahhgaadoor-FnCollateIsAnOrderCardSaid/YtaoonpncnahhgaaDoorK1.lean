/-
  Plain: every number has a key, a whole number; the orders are the keys'.
-/
import Derived.Test.YtaoonpncnahhgaaDoorFlt2
import Derived.Test.YtaoonpncnahhgaaDoorC1
namespace Go.Proofs.YtaoonpncnahhgaaDoor
open Ieee Flt

/-- what a float stands for, in units of 2^-1074; an infinity is beyond all others -/
def fv (x : Nat) : Int :=
  sval (x / 9223372036854775808 == 1) (if x / 4503599627370496 % 2048 = 2047 then 1 else if x / 4503599627370496 % 2048 = 0 then x % 4503599627370496 else x % 4503599627370496 + 4503599627370496)
    (if x / 4503599627370496 % 2048 = 2047 then 6074 else if x / 4503599627370496 % 2048 = 0 then 0 else x / 4503599627370496 % 2048 - 1)

theorem ofFlt_fv {x : Nat} (h : (ofFlt x).2 = true) :
    ∃ neg m e, (ofFlt x).1 = nrm neg m e ∧ m < 2 ^ 64 ∧ -1074 ≤ e ∧ sval neg m (e - -1074).toNat = fv x := by
  have hF : x % 4503599627370496 < 4503599627370496 := Nat.mod_lt _ (by decide)
  unfold ofFlt fltOf at *
  unfold fv
  generalize x % 4503599627370496 = F at *
  generalize x / 4503599627370496 % 2048 = E at *
  by_cases h1 : E = 2047
  · rw [if_pos h1] at *
    by_cases h2 : F = 0
    · rw [if_pos h2]
      exact ⟨_, 1, 5000, rfl, by decide, by decide, by simp only [if_pos h1]; exact congrArg (sval _ 1) (by decide)⟩
    · rw [if_neg h2] at h; cases h
  · simp only [if_neg h1]
    by_cases h2 : E = 0
    · simp only [if_pos h2]
      exact ⟨_, F, -1074, rfl, by omega, by decide, rfl⟩
    · simp only [if_neg h2]
      exact ⟨_, F + 4503599627370496, (E : Int) - 1075, rfl, by omega, by omega, by rw [show ((E : Int) - 1075 - -1074).toNat = E - 1 from by omega]⟩

theorem less_fv {x y : Nat} (hx : (ofFlt x).2 = true) (hy : (ofFlt y).2 = true) : lessN (ofFlt x).1 (ofFlt y).1 = cmpI (fv x) (fv y) := by
  obtain ⟨n1, m1, e1, h1, h2, h3, h4⟩ := ofFlt_fv hx
  obtain ⟨n2, m2, e2, g1, g2, g3, g4⟩ := ofFlt_fv hy
  rw [h1, g1, less_nrm n1 n2 m1 m2 e1 e2 (-1074) h2 g2 h3 g3, h4, g4]

theorem mul_pow_lt {m d a b c : Nat} (hm : m < 2 ^ a) (hd : d ≤ b) (h : a + b ≤ c) : m * 2 ^ d < 2 ^ c := by
  have h1 : 2 ^ d ≤ 2 ^ b := Nat.pow_le_pow_right (by decide) hd
  have h2 : m * 2 ^ d < 2 ^ a * 2 ^ b := Nat.lt_of_lt_of_le (Nat.mul_lt_mul_of_pos_right hm (Nat.two_pow_pos d)) (Nat.mul_le_mul_left _ h1)
  rw [← Nat.pow_add] at h2
  exact Nat.lt_of_lt_of_le h2 (Nat.pow_le_pow_right (by decide) h)

theorem sval_lt (neg : Bool) (m d : Nat) (hm : m < 2 ^ 53) (hd : d ≤ 2046) : -((2 ^ 6074 : Nat) : Int) < sval neg m d ∧ sval neg m d < ((2 ^ 6074 : Nat) : Int) := by
  have : m * 2 ^ d < 2 ^ 6074 := mul_pow_lt (a := 53) (b := 2046) (c := 6074) hm hd (by decide)
  unfold sval
  generalize 2 ^ 6074 = Z at *
  generalize m * 2 ^ d = V at *
  cases neg
  · rw [if_neg (by decide)]; omega
  · rw [if_pos rfl]; omega

/-- the datum of a float that is a number or an infinity, by its key -/
theorem read_inf (x : Nat) (hx : x < 18446744073709551616) (hE : x / 4503599627370496 % 2048 = 2047) (hF : x % 4503599627370496 = 0) :
    FloatKind.f64.format.read x = .infinity (x / 9223372036854775808 == 1) := by
  have hsw : double.signWeight = 2 ^ 63 := rfl
  have hb : double.binade = 2 ^ 52 := rfl
  have hi : double.infRung = 2047 * 2 ^ 52 := by decide
  have h1 : x % 2 ^ 63 = 2047 * 2 ^ 52 := by omega
  have h2 : x / 2 ^ 63 % 2 = x / 9223372036854775808 := by omega
  show double.read _ = _
  unfold Format.read
  simp only [hsw, hb, hi, h1, h2]
  rw [if_neg (by decide), if_neg (by decide)]; simp

theorem ofFlt_ok {x : Nat} (h : (ofFlt x).2 = true) (hE : x / 4503599627370496 % 2048 = 2047) : x % 4503599627370496 = 0 := by
  unfold ofFlt fltOf at h
  rw [if_pos hE] at h
  by_cases h2 : x % 4503599627370496 = 0
  · exact h2
  · rw [if_neg h2] at h; cases h

def ordI (o : Option Ordering) : Int := match o with | some .lt => -1 | some .eq => 0 | _ => 1
theorem ordI_compare (a b : Int) : ordI (some (compare a b)) = cmpI a b := by
  unfold cmpI
  rcases Int.lt_trichotomy a b with h | h | h
  · rw [Int.compare_eq_lt.2 h, if_pos h]; rfl
  · subst h; rw [Int.compare_eq_eq.2 rfl, if_neg (by omega), if_neg (by omega)]; rfl
  · rw [Int.compare_eq_gt.2 h, if_neg (by omega), if_pos h]; rfl

theorem signed_sval (neg : Bool) (m d : Nat) : signed neg m d = sval neg m d := by
  unfold signed sval
  rw [Nat.shiftLeft_eq]

theorem ordF_fv {x y : Nat} (hx : x < 18446744073709551616) (hy : y < 18446744073709551616) (ox : (ofFlt x).2 = true) (oy : (ofFlt y).2 = true) : ordF x y = cmpI (fv x) (fv y) := by
  show ordI ((FloatKind.f64.format.read x).order (FloatKind.f64.format.read y)) = _
  have hFx : x % 4503599627370496 < 4503599627370496 := Nat.mod_lt _ (by decide)
  have hFy : y % 4503599627370496 < 4503599627370496 := Nat.mod_lt _ (by decide)
  have hEx : x / 4503599627370496 % 2048 < 2048 := Nat.mod_lt _ (by decide)
  have hEy : y / 4503599627370496 % 2048 < 2048 := Nat.mod_lt _ (by decide)
  by_cases h1 : x / 4503599627370496 % 2048 = 2047
  · rw [read_inf x hx h1 (ofFlt_ok ox h1)]
    have e1 : fv x = sval (x / 9223372036854775808 == 1) 1 6074 := by unfold fv; rw [if_pos h1, if_pos h1]
    rw [e1]
    by_cases h2 : y / 4503599627370496 % 2048 = 2047
    · rw [read_inf y hy h2 (ofFlt_ok oy h2)]
      have e2 : fv y = sval (y / 9223372036854775808 == 1) 1 6074 := by unfold fv; rw [if_pos h2, if_pos h2]
      rw [e2]
      generalize (x / 9223372036854775808 == 1) = s
      generalize (y / 9223372036854775808 == 1) = t
      have hz : (0 : Int) < ((2 ^ 6074 : Nat) : Int) := by have := Nat.two_pow_pos 6074; omega
      unfold sval
      generalize (2 ^ 6074 : Nat) = Zn at *
      rw [Nat.one_mul]
      generalize (Zn : Int) = Z at *
      cases s <;> cases t
      · show (0 : Int) = cmpI Z Z
        rw [cmpI_self]
      · show (1 : Int) = cmpI Z (-Z)
        unfold cmpI; rw [if_neg (by omega), if_pos (by omega)]
      · show (-1 : Int) = cmpI (-Z) Z
        unfold cmpI; rw [if_pos (by omega)]
      · show (0 : Int) = cmpI (-Z) (-Z)
        rw [cmpI_self]
    · rw [read_any y hy h2]
      have hb := sval_lt (y / 9223372036854775808 == 1) (if y / 4503599627370496 % 2048 = 0 then y % 4503599627370496 else y % 4503599627370496 + 4503599627370496) (if y / 4503599627370496 % 2048 = 0 then 0 else y / 4503599627370496 % 2048 - 1) (by split <;> omega) (by split <;> omega)
      have e2 : fv y = sval (y / 9223372036854775808 == 1) (if y / 4503599627370496 % 2048 = 0 then y % 4503599627370496 else y % 4503599627370496 + 4503599627370496) (if y / 4503599627370496 % 2048 = 0 then 0 else y / 4503599627370496 % 2048 - 1) := by unfold fv; rw [if_neg h2, if_neg h2]
      rw [e2]
      generalize sval (y / 9223372036854775808 == 1) _ _ = V at *
      generalize (x / 9223372036854775808 == 1) = s
      unfold sval
      generalize (2 ^ 6074 : Nat) = Zn at *
      rw [Nat.one_mul]
      generalize (Zn : Int) = Z at *
      cases s
      · show (1 : Int) = _
        unfold cmpI; rw [if_neg (by simp; omega), if_pos (by simp; omega)]
      · show (-1 : Int) = _
        unfold cmpI; rw [if_pos (by simp; omega)]
  · by_cases h2 : y / 4503599627370496 % 2048 = 2047
    · rw [read_inf y hy h2 (ofFlt_ok oy h2), read_any x hx h1]
      have e1 : fv y = sval (y / 9223372036854775808 == 1) 1 6074 := by unfold fv; rw [if_pos h2, if_pos h2]
      have hb := sval_lt (x / 9223372036854775808 == 1) (if x / 4503599627370496 % 2048 = 0 then x % 4503599627370496 else x % 4503599627370496 + 4503599627370496) (if x / 4503599627370496 % 2048 = 0 then 0 else x / 4503599627370496 % 2048 - 1) (by split <;> omega) (by split <;> omega)
      have e2 : fv x = sval (x / 9223372036854775808 == 1) (if x / 4503599627370496 % 2048 = 0 then x % 4503599627370496 else x % 4503599627370496 + 4503599627370496) (if x / 4503599627370496 % 2048 = 0 then 0 else x / 4503599627370496 % 2048 - 1) := by unfold fv; rw [if_neg h1, if_neg h1]
      rw [e1, e2]
      generalize sval (x / 9223372036854775808 == 1) _ _ = V at *
      generalize (y / 9223372036854775808 == 1) = s
      unfold sval
      generalize (2 ^ 6074 : Nat) = Zn at *
      rw [Nat.one_mul]
      generalize (Zn : Int) = Z at *
      cases s
      · show (-1 : Int) = _
        unfold cmpI; rw [if_pos (by simp; omega)]
      · show (1 : Int) = _
        unfold cmpI; rw [if_neg (by simp; omega), if_pos (by simp; omega)]
    · rw [read_any x hx h1, read_any y hy h2]
      have e1 : fv x = sval (x / 9223372036854775808 == 1) (if x / 4503599627370496 % 2048 = 0 then x % 4503599627370496 else x % 4503599627370496 + 4503599627370496) ((if x / 4503599627370496 % 2048 = 0 then -1074 else ((x / 4503599627370496 % 2048 : Nat) : Int) - 1075) - -1074).toNat := by
        unfold fv; rw [if_neg h1, if_neg h1]; congr 1; split <;> omega
      have e2 : fv y = sval (y / 9223372036854775808 == 1) (if y / 4503599627370496 % 2048 = 0 then y % 4503599627370496 else y % 4503599627370496 + 4503599627370496) ((if y / 4503599627370496 % 2048 = 0 then -1074 else ((y / 4503599627370496 % 2048 : Nat) : Int) - 1075) - -1074).toNat := by
        unfold fv; rw [if_neg h2, if_neg h2]; congr 1; split <;> omega
      have b1 : (-1074 : Int) ≤ (if x / 4503599627370496 % 2048 = 0 then -1074 else ((x / 4503599627370496 % 2048 : Nat) : Int) - 1075) := by split <;> omega
      have b2 : (-1074 : Int) ≤ (if y / 4503599627370496 % 2048 = 0 then -1074 else ((y / 4503599627370496 % 2048 : Nat) : Int) - 1075) := by split <;> omega
      rw [e1, e2]
      generalize (if x / 4503599627370496 % 2048 = 0 then -1074 else ((x / 4503599627370496 % 2048 : Nat) : Int) - 1075) = i at *
      generalize (if y / 4503599627370496 % 2048 = 0 then -1074 else ((y / 4503599627370496 % 2048 : Nat) : Int) - 1075) = j at *
      show ordI (some (compare (signed _ _ (i - min i j).toNat) (signed _ _ (j - min i j).toNat))) = _
      rw [ordI_compare, signed_sval, signed_sval]
      exact (cmp_base _ _ _ _ i j (min i j) (-1074) (by omega) (by omega) (by omega)).symm

end Go.Proofs.YtaoonpncnahhgaaDoor
