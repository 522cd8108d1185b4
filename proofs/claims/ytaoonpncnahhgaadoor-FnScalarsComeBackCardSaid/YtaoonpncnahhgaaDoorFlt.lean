/-
  Plain facts about IEEE words: no program, no memory.
-/
import GoSem.Core.Float
namespace Go.Proofs.YtaoonpncnahhgaaDoor.Flt
open Ieee

theorem log2_eq {n k : Nat} (h1 : 2 ^ k ≤ n) (h2 : n < 2 ^ (k + 1)) : n.log2 = k := by
  have h0 : n ≠ 0 := by have := Nat.two_pow_pos k; omega
  have a := (Nat.le_log2 h0).2 h1
  have b := (Nat.log2_lt h0).2 h2
  omega

/-- nothing is dropped -/
theorem cut_zero (neg : Bool) (n : Nat) : Toward.even.cut neg n 0 = n := by
  simp [Toward.cut, Nat.mod_one]

/-- zeros alone are dropped -/
theorem cut_exact (neg : Bool) (n d : Nat) (h0 : n ≠ 0) : Toward.even.cut neg (n * 2 ^ d) d = n := by
  have hm : min d ((n * 2 ^ d).log2 + 2) = d := by
    have : (n * 2 ^ d).log2 = n.log2 + d := by
      apply log2_eq
      · rw [Nat.pow_add]; exact Nat.mul_le_mul_right _ (Nat.log2_self_le h0)
      · rw [show n.log2 + d + 1 = (n.log2 + 1) + d by omega, Nat.pow_add]
        exact Nat.mul_lt_mul_of_pos_right Nat.lt_log2_self (Nat.two_pow_pos d)
    omega
  have hp := Nat.two_pow_pos d
  simp only [Toward.cut, hm, Nat.one_shiftLeft, Nat.mul_mod_left, Nat.mul_div_cancel _ hp]
  have h1 : ¬ (2 ^ d < 2 * 0) := by omega
  have h2 : ¬ (2 ^ d = 2 * 0) := by omega
  simp

/-- the word of sign, exponent field and fraction field -/
def w64 (neg : Bool) (E F : Nat) : Nat := (if neg then 2 ^ 63 else 0) + (E * 2 ^ 52 + F)
def w32 (neg : Bool) (E F : Nat) : Nat := (if neg then 2 ^ 31 else 0) + (E * 2 ^ 23 + F)

theorem read64 {neg : Bool} {E F : Nat} (hE : 1 ≤ E) (hE2 : E < 2047) (hF : F < 2 ^ 52) :
    double.read (w64 neg E F) = .number neg (2 ^ 52 + F) ((E : Int) - 1075) := by
  have hsw : double.signWeight = 2 ^ 63 := rfl
  have hb : double.binade = 2 ^ 52 := rfl
  have hi : double.infRung = 2047 * 2 ^ 52 := by decide
  have hl : double.leastPlace = -1074 := by decide
  have hlt : E * 2 ^ 52 + F < 2 ^ 63 := by omega
  have hneg : (w64 neg E F / 2 ^ 63 % 2 == 1) = neg := by
    unfold w64; cases neg <;> simp <;> omega
  have hr : w64 neg E F % 2 ^ 63 = E * 2 ^ 52 + F := by
    unfold w64; cases neg <;> simp <;> omega
  unfold Format.read
  simp only [hsw, hb, hi, hl, hneg, hr]
  rw [if_neg (by omega), if_pos (by omega)]
  have h1 : (E * 2 ^ 52 + F) % 2 ^ 52 = F := by omega
  have h2 : (E * 2 ^ 52 + F) / 2 ^ 52 = E := by omega
  rw [h1, h2]
  congr 1
  omega

theorem read32 {neg : Bool} {E F : Nat} (hE : 1 ≤ E) (hE2 : E < 255) (hF : F < 2 ^ 23) :
    single.read (w32 neg E F) = .number neg (2 ^ 23 + F) ((E : Int) - 150) := by
  have hsw : single.signWeight = 2 ^ 31 := rfl
  have hb : single.binade = 2 ^ 23 := rfl
  have hi : single.infRung = 255 * 2 ^ 23 := by decide
  have hl : single.leastPlace = -149 := by decide
  have hlt : E * 2 ^ 23 + F < 2 ^ 31 := by omega
  have hneg : (w32 neg E F / 2 ^ 31 % 2 == 1) = neg := by
    unfold w32; cases neg <;> simp <;> omega
  have hr : w32 neg E F % 2 ^ 31 = E * 2 ^ 23 + F := by
    unfold w32; cases neg <;> simp <;> omega
  unfold Format.read
  simp only [hsw, hb, hi, hl, hneg, hr]
  rw [if_neg (by omega), if_pos (by omega)]
  have h1 : (E * 2 ^ 23 + F) % 2 ^ 23 = F := by omega
  have h2 : (E * 2 ^ 23 + F) / 2 ^ 23 = E := by omega
  rw [h1, h2]
  congr 1
  omega

/-- a number of at most 53 digits is written as it is -/
theorem write64 {neg : Bool} {m : Nat} {p : Int} {k : Nat} (h1 : 2 ^ k ≤ m) (h2 : m < 2 ^ (k + 1)) (hk : k ≤ 52) (hp : -1074 ≤ p + k - 52) (hq : p + k ≤ 1023) :
    double.nearest neg m p = w64 neg (p + k + 1023).toNat (m * 2 ^ (52 - k) - 2 ^ 52) := by
  have hsw : double.signWeight = 2 ^ 63 := rfl
  have hb : double.binade = 2 ^ 52 := rfl
  have hi : double.infRung = 2047 * 2 ^ 52 := by decide
  have hl : double.leastPlace = -1074 := by decide
  have hf : double.fractionBits = 52 := rfl
  have h0 : m ≠ 0 := by have := Nat.two_pow_pos k; omega
  have hlog := log2_eq h1 h2
  have hlast : max (p + (m.log2 : Int) - (52 : Nat)) (-1074) = p + k - 52 := by rw [hlog]; omega
  have hlo : 2 ^ 52 ≤ m * 2 ^ (52 - k) := by
    have := Nat.mul_le_mul_right (2 ^ (52 - k)) h1
    rwa [← Nat.pow_add, show k + (52 - k) = 52 by omega] at this
  have hhi : m * 2 ^ (52 - k) < 2 ^ 53 := by
    have := Nat.mul_lt_mul_of_pos_right h2 (Nat.two_pow_pos (52 - k))
    rwa [← Nat.pow_add, show k + 1 + (52 - k) = 53 by omega] at this
  unfold Format.nearest
  rw [if_neg h0]
  simp only [hf, hl, hi, hb, hlast]
  have e1 : (p + (k : Int) - 52 - p).toNat = 0 := by omega
  have e2 : (p - (p + (k : Int) - 52)).toNat = 52 - k := by omega
  rw [e1, e2, cut_zero, Nat.shiftLeft_eq]
  unfold Format.word w64
  rw [hsw]
  have hin : min ((p + (k : Int) - 52 - -1074).toNat * 2 ^ 52 + m * 2 ^ (52 - k)) (2047 * 2 ^ 52) = (p + k + 1023).toNat * 2 ^ 52 + (m * 2 ^ (52 - k) - 2 ^ 52) := by
    have e3 : (p + (k : Int) - 52 - -1074).toNat = (p + k + 1023).toNat - 1 := by omega
    have hge : 1 ≤ (p + (k : Int) + 1023).toNat := by omega
    have hle : (p + (k : Int) + 1023).toNat ≤ 2046 := by omega
    rw [e3]
    clear e3 hlast hlog e1 e2 h1 h2 hk hp hq h0 hi hl hb hf hsw
    revert hge hle hlo hhi
    generalize (p + (k : Int) + 1023).toNat = E
    generalize m * 2 ^ (52 - k) = M
    intro hlo hhi hge hle
    omega
  rw [hin]
  cases neg with
  | true => simp only [if_true]
  | false => simp only [Bool.false_eq_true, if_false, Nat.zero_add]

/-- halves of it: a word of 32 bits' number, out of one of 64 whose last 29 bits are 0 -/
theorem write32 {neg : Bool} {e f : Nat} (he : 1 ≤ e) (he2 : e ≤ 254) (hf2 : f < 2 ^ 23) :
    single.nearest neg (2 ^ 52 + f * 2 ^ 29) ((e : Int) - 179) = w32 neg e f := by
  have hsw : single.signWeight = 2 ^ 31 := rfl
  have hb : single.binade = 2 ^ 23 := rfl
  have hi : single.infRung = 255 * 2 ^ 23 := by decide
  have hl : single.leastPlace = -149 := by decide
  have hf : single.fractionBits = 23 := rfl
  have hlog : (2 ^ 52 + f * 2 ^ 29).log2 = 52 := log2_eq (by omega) (by show _ < 2 ^ 53; omega)
  have hlast : max ((e : Int) - 179 + ((2 ^ 52 + f * 2 ^ 29).log2 : Int) - (23 : Nat)) (-149) = (e : Int) - 150 := by rw [hlog]; clear hlog; omega
  have hm : 2 ^ 52 + f * 2 ^ 29 = (2 ^ 23 + f) * 2 ^ 29 := by clear hlog hlast; omega
  have e1 : ((e : Int) - 150 - ((e : Int) - 179)).toNat = 29 := by clear hlog hlast hm hl hi hb hf hsw; omega
  have e2 : ((e : Int) - 179 - ((e : Int) - 150)).toNat = 0 := by clear hlog hlast hm hl hi hb hf hsw; omega
  have e3 : ((e : Int) - 150 - -149).toNat = e - 1 := by clear hlog hlast hm hl hi hb hf hsw; omega
  have h0 : 2 ^ 52 + f * 2 ^ 29 ≠ 0 := by clear hlog hlast hm; omega
  have h1 : 2 ^ 23 + f ≠ 0 := by clear hlog hlast hm h0; omega
  unfold Format.nearest
  rw [if_neg h0]
  simp only [hf, hl, hi, hb, hlast]
  rw [e1, e2, Nat.shiftLeft_eq, hm, Nat.pow_zero, Nat.mul_one, cut_exact _ _ _ h1, e3]
  unfold Format.word w32
  rw [hsw]
  have hin : min ((e - 1) * 2 ^ 23 + (2 ^ 23 + f)) (255 * 2 ^ 23) = e * 2 ^ 23 + f := by
    clear hlast hlog hm e1 e2 e3 hl hi hb hsw hf h0 h1
    obtain ⟨k, rfl⟩ : ∃ k, e = k + 1 := ⟨e - 1, (Nat.sub_add_cancel he).symm⟩
    rw [Nat.add_sub_cancel]
    have hk : k ≤ 253 := by omega
    clear he he2
    have : k * 2 ^ 23 + (2 ^ 23 + f) ≤ 255 * 2 ^ 23 := by omega
    rw [Nat.min_eq_left this, Nat.add_mul, Nat.one_mul, Nat.add_assoc]
  rw [hin]
  cases neg with
  | true => simp only [if_true]
  | false => simp only [Bool.false_eq_true, if_false, Nat.zero_add]

end Go.Proofs.YtaoonpncnahhgaaDoor.Flt
