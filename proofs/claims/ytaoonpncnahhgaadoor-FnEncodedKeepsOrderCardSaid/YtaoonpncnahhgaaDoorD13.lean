/-
  What EncodeScalars makes of a value, and that DecodeScalars takes it back: plain joins.
-/
import Derived.Test.YtaoonpncnahhgaaDoorD12
import Derived.Test.YtaoonpncnahhgaaDoorD14
import Derived.Test.YtaoonpncnahhgaaDoorNu
import Derived.Test.YtaoonpncnahhgaaDoorNm
import Derived.Test.YtaoonpncnahhgaaDoorNi
import Derived.Test.YtaoonpncnahhgaaDoorNf
import Derived.Test.YtaoonpncnahhgaaDoorNc1
import Derived.Test.YtaoonpncnahhgaaDoorNc2
import Derived.Test.YtaoonpncnahhgaaDoorNb1
import Derived.Test.YtaoonpncnahhgaaDoorNb2
import Derived.Test.YtaoonpncnahhgaaDoorNs1
import Derived.Test.YtaoonpncnahhgaaDoorNs2
namespace Go.Proofs.YtaoonpncnahhgaaDoor
open Go.RowKit

theorem emod_step (n m : Int) (hm : 0 < m) : (n / 256 % m) * 256 + n % 256 = n % (m * 256) := by
  have h1 : n = 256 * (n / 256) + n % 256 := by omega
  have h2 : n / 256 = m * (n / 256 / m) + n / 256 % m := (Int.mul_ediv_add_emod (n / 256) m).symm
  have h3 := Int.emod_nonneg (n / 256) (show m ≠ 0 by omega)
  have h4 := Int.emod_lt_of_pos (n / 256) hm
  have h5 : 0 ≤ n % 256 := by omega
  have h6 : n % 256 < 256 := by omega
  generalize n / 256 / m = q at *
  generalize n / 256 % m = s at *
  generalize n % 256 = r at *
  have h7 : n = s * 256 + r + m * 256 * q := by
    rw [h1, h2, Int.mul_add, ← Int.mul_assoc, Int.mul_comm 256 m, Int.mul_comm 256 s]; omega
  rw [h7, Int.add_mul_emod_self_left, Int.emod_eq_of_lt (by omega) (by omega)]

theorem valB_be : ∀ (k : Nat) (n : Int), ((valB (be k n) : Nat) : Int) = n % ((256 ^ k : Nat) : Int)
  | 0, n => by simp [be, valB]
  | k + 1, n => by
    have ih := valB_be k (n / 256)
    have hp : (0 : Int) < ((256 ^ k : Nat) : Int) := by have := Nat.pow_pos (n := k) (show 0 < 256 by omega); omega
    rw [be, valB_snoc, Nat.pow_succ, Int.natCast_add, Int.natCast_mul, ih, u8z, Int.natCast_mul]
    exact emod_step n _ hp

theorem valM_eq (xs : List UInt8) : ∃ t : Int, ((valM xs : Nat) : Int) = ((valB xs : Nat) : Int) - ((256 ^ xs.length : Nat) : Int) + 18446744073709551616 * t := by
  suffices h : ∀ (n : Nat) (xs : List UInt8), xs.length = n → ∃ t : Int, ((valM xs : Nat) : Int) = ((valB xs : Nat) : Int) - ((256 ^ n : Nat) : Int) + 18446744073709551616 * t from h _ xs rfl
  intro n
  induction n with
  | zero => intro xs h; rw [List.eq_nil_of_length_eq_zero h]; exact ⟨1, by simp [valM, valB]⟩
  | succ n ih =>
    intro xs h
    obtain ⟨ys, y, rfl⟩ : ∃ ys y, xs = ys ++ [y] := ⟨_, _, (List.dropLast_concat_getLast (l := xs) (by intro h'; subst h'; simp at h)).symm⟩
    obtain ⟨t, ht⟩ := ih ys (by simp at h; exact h)
    rw [valM_snoc, valB_snoc, Nat.pow_succ]
    refine ⟨256 * t - ((valM ys / 72057594037927936 : Nat) : Int), ?_⟩
    generalize valM ys = m at *
    generalize valB ys = v at *
    generalize 256 ^ n = z at *
    generalize y.toNat = w at *
    omega

theorem valM_be (k : Nat) (_hk : k ≤ 8) (n : Int) (h0 : -((256 ^ k : Nat) : Int) ≤ n) (h1 : n < 0) (h2 : -9223372036854775808 ≤ n) : ((valM (be k n) : Nat) : Int) = n + 18446744073709551616 := by
  obtain ⟨t, ht⟩ := valM_eq (be k n)
  rw [be_length, valB_be] at ht
  have hlt := valM_lt (be k n)
  have hm : n % ((256 ^ k : Nat) : Int) = n + ((256 ^ k : Nat) : Int) := by
    rw [← Int.add_emod_right n, Int.emod_eq_of_lt (by omega) (by omega)]
  rw [hm] at ht
  generalize 256 ^ k = z at *
  omega

theorem valB_be_nn (k : Nat) (n : Nat) (h : n < 256 ^ k) : valB (be k (n : Int)) = n := by
  have := valB_be k n
  rw [Int.emod_eq_of_lt (by omega) (by omega)] at this
  omega

theorem round23_int (n : Int) (h0 : -9223372036854775808 ≤ n) (h1 : n ≤ 9223372036854775807) : Round23 (encI n) (.i64 n) := by
  unfold encI
  by_cases q0 : n < -72057594037927936
  · rw [if_pos q0]
    exact (by have e := valM_be 8 (by omega) n (by rw [show ((256 ^ 8 : Nat) : Int) = 18446744073709551616 from rfl]; omega) (by omega) h0; exact round23_m8 (be 8 n) (be_length _ _) n h0 (by omega) e)
  rw [if_neg q0]
  by_cases q1 : n < -281474976710656
  · rw [if_pos q1]
    exact (by have e := valM_be 7 (by omega) n (by rw [show ((256 ^ 7 : Nat) : Int) = 72057594037927936 from rfl]; omega) (by omega) h0; exact round23_m7 (be 7 n) (be_length _ _) n h0 (by omega) e)
  rw [if_neg q1]
  by_cases q2 : n < -1099511627776
  · rw [if_pos q2]
    exact (by have e := valM_be 6 (by omega) n (by rw [show ((256 ^ 6 : Nat) : Int) = 281474976710656 from rfl]; omega) (by omega) h0; exact round23_m6 (be 6 n) (be_length _ _) n h0 (by omega) e)
  rw [if_neg q2]
  by_cases q3 : n < -4294967296
  · rw [if_pos q3]
    exact (by have e := valM_be 5 (by omega) n (by rw [show ((256 ^ 5 : Nat) : Int) = 1099511627776 from rfl]; omega) (by omega) h0; exact round23_m5 (be 5 n) (be_length _ _) n h0 (by omega) e)
  rw [if_neg q3]
  by_cases q4 : n < -16777216
  · rw [if_pos q4]
    exact (by have e := valM_be 4 (by omega) n (by rw [show ((256 ^ 4 : Nat) : Int) = 4294967296 from rfl]; omega) (by omega) h0; exact round23_m4 (be 4 n) (be_length _ _) n h0 (by omega) e)
  rw [if_neg q4]
  by_cases q5 : n < -65536
  · rw [if_pos q5]
    exact (by have e := valM_be 3 (by omega) n (by rw [show ((256 ^ 3 : Nat) : Int) = 16777216 from rfl]; omega) (by omega) h0; exact round23_m3 (be 3 n) (be_length _ _) n h0 (by omega) e)
  rw [if_neg q5]
  by_cases q6 : n < -256
  · rw [if_pos q6]
    exact (by have e := valM_be 2 (by omega) n (by rw [show ((256 ^ 2 : Nat) : Int) = 65536 from rfl]; omega) (by omega) h0; exact round23_m2 (be 2 n) (be_length _ _) n h0 (by omega) e)
  rw [if_neg q6]
  by_cases q7 : n < 0
  · rw [if_pos q7]
    exact (by have e := valM_be 1 (by omega) n (by rw [show ((256 ^ 1 : Nat) : Int) = 256 from rfl]; omega) (by omega) h0; exact round23_m1 (be 1 n) (be_length _ _) n h0 (by omega) e)
  rw [if_neg q7]
  by_cases q8 : n ≤ 170
  · rw [if_pos q8]
    exact (by
      have e : ((UInt8.ofNat (n + 85).toNat).toNat : Int) = n + 85 := by rw [UInt8.toNat_ofNat']; omega
      have h := round23_small (UInt8.ofNat (n + 85).toNat) (by omega)
      rwa [e, show n + 85 - 85 = n by omega] at h)
  rw [if_neg q8]
  by_cases q9 : n ≤ 255
  · rw [if_pos q9]
    exact (by
      obtain ⟨N, rfl⟩ := Int.eq_ofNat_of_zero_le (show 0 ≤ n by omega)
      have e := valB_be_nn 1 N (by rw [show 256 ^ 1 = 256 from rfl]; omega)
      have h := round23_i1 (be 1 (N : Int)) (be_length _ _) (by rw [e]; omega)
      rwa [e] at h)
  rw [if_neg q9]
  by_cases q10 : n ≤ 65535
  · rw [if_pos q10]
    exact (by
      obtain ⟨N, rfl⟩ := Int.eq_ofNat_of_zero_le (show 0 ≤ n by omega)
      have e := valB_be_nn 2 N (by rw [show 256 ^ 2 = 65536 from rfl]; omega)
      have h := round23_i2 (be 2 (N : Int)) (be_length _ _) (by rw [e]; omega)
      rwa [e] at h)
  rw [if_neg q10]
  by_cases q11 : n ≤ 16777215
  · rw [if_pos q11]
    exact (by
      obtain ⟨N, rfl⟩ := Int.eq_ofNat_of_zero_le (show 0 ≤ n by omega)
      have e := valB_be_nn 3 N (by rw [show 256 ^ 3 = 16777216 from rfl]; omega)
      have h := round23_i3 (be 3 (N : Int)) (be_length _ _) (by rw [e]; omega)
      rwa [e] at h)
  rw [if_neg q11]
  by_cases q12 : n ≤ 4294967295
  · rw [if_pos q12]
    exact (by
      obtain ⟨N, rfl⟩ := Int.eq_ofNat_of_zero_le (show 0 ≤ n by omega)
      have e := valB_be_nn 4 N (by rw [show 256 ^ 4 = 4294967296 from rfl]; omega)
      have h := round23_i4 (be 4 (N : Int)) (be_length _ _) (by rw [e]; omega)
      rwa [e] at h)
  rw [if_neg q12]
  by_cases q13 : n ≤ 1099511627775
  · rw [if_pos q13]
    exact (by
      obtain ⟨N, rfl⟩ := Int.eq_ofNat_of_zero_le (show 0 ≤ n by omega)
      have e := valB_be_nn 5 N (by rw [show 256 ^ 5 = 1099511627776 from rfl]; omega)
      have h := round23_i5 (be 5 (N : Int)) (be_length _ _) (by rw [e]; omega)
      rwa [e] at h)
  rw [if_neg q13]
  by_cases q14 : n ≤ 281474976710655
  · rw [if_pos q14]
    exact (by
      obtain ⟨N, rfl⟩ := Int.eq_ofNat_of_zero_le (show 0 ≤ n by omega)
      have e := valB_be_nn 6 N (by rw [show 256 ^ 6 = 281474976710656 from rfl]; omega)
      have h := round23_i6 (be 6 (N : Int)) (be_length _ _) (by rw [e]; omega)
      rwa [e] at h)
  rw [if_neg q14]
  by_cases q15 : n ≤ 72057594037927935
  · rw [if_pos q15]
    exact (by
      obtain ⟨N, rfl⟩ := Int.eq_ofNat_of_zero_le (show 0 ≤ n by omega)
      have e := valB_be_nn 7 N (by rw [show 256 ^ 7 = 72057594037927936 from rfl]; omega)
      have h := round23_i7 (be 7 (N : Int)) (be_length _ _) (by rw [e]; omega)
      rwa [e] at h)
  rw [if_neg q15]
  exact (by
      obtain ⟨N, rfl⟩ := Int.eq_ofNat_of_zero_le (show 0 ≤ n by omega)
      have e := valB_be_nn 8 N (by rw [show 256 ^ 8 = 18446744073709551616 from rfl]; omega)
      have h := round23_i8 (be 8 (N : Int)) (be_length _ _) (by rw [e]; omega)
      rwa [e] at h)

theorem round23_uintAll (n : Nat) (hn : n < 18446744073709551616) : Round23 (UInt8.ofNat (60 + nb n) :: be (nb n) n) (.u64 n) := by
  unfold nb
  by_cases q1 : n < 256
  · rw [if_pos q1]
    have e := valB_be_nn 1 n (by rw [show 256 ^ 1 = 256 from rfl]; omega)
    have h := round23_u1 (be 1 (n : Int)) (be_length _ _)
    rw [e] at h
    exact h
  rw [if_neg q1]
  by_cases q2 : n < 65536
  · rw [if_pos q2]
    have e := valB_be_nn 2 n (by rw [show 256 ^ 2 = 65536 from rfl]; omega)
    have h := round23_u2 (be 2 (n : Int)) (be_length _ _)
    rw [e] at h
    exact h
  rw [if_neg q2]
  by_cases q3 : n < 16777216
  · rw [if_pos q3]
    have e := valB_be_nn 3 n (by rw [show 256 ^ 3 = 16777216 from rfl]; omega)
    have h := round23_u3 (be 3 (n : Int)) (be_length _ _)
    rw [e] at h
    exact h
  rw [if_neg q3]
  by_cases q4 : n < 4294967296
  · rw [if_pos q4]
    have e := valB_be_nn 4 n (by rw [show 256 ^ 4 = 4294967296 from rfl]; omega)
    have h := round23_u4 (be 4 (n : Int)) (be_length _ _)
    rw [e] at h
    exact h
  rw [if_neg q4]
  by_cases q5 : n < 1099511627776
  · rw [if_pos q5]
    have e := valB_be_nn 5 n (by rw [show 256 ^ 5 = 1099511627776 from rfl]; omega)
    have h := round23_u5 (be 5 (n : Int)) (be_length _ _)
    rw [e] at h
    exact h
  rw [if_neg q5]
  by_cases q6 : n < 281474976710656
  · rw [if_pos q6]
    have e := valB_be_nn 6 n (by rw [show 256 ^ 6 = 281474976710656 from rfl]; omega)
    have h := round23_u6 (be 6 (n : Int)) (be_length _ _)
    rw [e] at h
    exact h
  rw [if_neg q6]
  by_cases q7 : n < 72057594037927936
  · rw [if_pos q7]
    have e := valB_be_nn 7 n (by rw [show 256 ^ 7 = 72057594037927936 from rfl]; omega)
    have h := round23_u7 (be 7 (n : Int)) (be_length _ _)
    rw [e] at h
    exact h
  rw [if_neg q7]
  have e := valB_be_nn 8 n (by rw [show 256 ^ 8 = 18446744073709551616 from rfl]; omega)
  have h := round23_u8 (be 8 (n : Int)) (be_length _ _)
  rw [e] at h
  exact h

theorem revb_zero (u : Nat) (hu : u < 18446744073709551616) (h : revb 8 u = 0) : u = 0 := by
  obtain ⟨b0, b1, b2, b3, b4, b5, b6, b7, h0, h1, h2, h3, h4, h5, h6, h7, eu, eN⟩ := revb_split u hu
  omega

theorem round23_float (u : Nat) (hu : u < 18446744073709551616) : Round23 (encF 3 u) (.f64 u) := by
  have hr := revb_lt 8 u
  rw [show 256 ^ 8 = 18446744073709551616 from rfl] at hr
  unfold encF
  by_cases h : revb 8 u = 0
  · rw [if_pos h, revb_zero u hu h]; exact round23_k3
  rw [if_neg h]
  unfold nb
  by_cases q1 : revb 8 u < 256
  · rw [if_pos q1]; exact round23_f1 (be 1 ((revb 8 u : Nat) : Int)) (be_length _ _) u (decF_1 u hu (by omega))
  rw [if_neg q1]
  by_cases q2 : revb 8 u < 65536
  · rw [if_pos q2]; exact round23_f2 (be 2 ((revb 8 u : Nat) : Int)) (be_length _ _) u (decF_2 u hu (by omega))
  rw [if_neg q2]
  by_cases q3 : revb 8 u < 16777216
  · rw [if_pos q3]; exact round23_f3 (be 3 ((revb 8 u : Nat) : Int)) (be_length _ _) u (decF_3 u hu (by omega))
  rw [if_neg q3]
  by_cases q4 : revb 8 u < 4294967296
  · rw [if_pos q4]; exact round23_f4 (be 4 ((revb 8 u : Nat) : Int)) (be_length _ _) u (decF_4 u hu (by omega))
  rw [if_neg q4]
  by_cases q5 : revb 8 u < 1099511627776
  · rw [if_pos q5]; exact round23_f5 (be 5 ((revb 8 u : Nat) : Int)) (be_length _ _) u (decF_5 u hu (by omega))
  rw [if_neg q5]
  by_cases q6 : revb 8 u < 281474976710656
  · rw [if_pos q6]; exact round23_f6 (be 6 ((revb 8 u : Nat) : Int)) (be_length _ _) u (decF_6 u hu (by omega))
  rw [if_neg q6]
  by_cases q7 : revb 8 u < 72057594037927936
  · rw [if_pos q7]; exact round23_f7 (be 7 ((revb 8 u : Nat) : Int)) (be_length _ _) u (decF_7 u hu (by omega))
  rw [if_neg q7]
  exact round23_f8 (be 8 ((revb 8 u : Nat) : Int)) (be_length _ _) u (decF_8 u hu (by omega))

/-- the bytes of one part of a complex number -/
theorem encF12 (u : Nat) (hu : u < 18446744073709551616) : (encF 12 u = [12] ∧ u = 0) ∨ ∃ k, 1 ≤ k ∧ k ≤ 8 ∧ encF 12 u = UInt8.ofNat (12 + k) :: be k ((revb 8 u : Nat) : Int) ∧ DecF k (be k ((revb 8 u : Nat) : Int)) u := by
  have hr := revb_lt 8 u
  rw [show 256 ^ 8 = 18446744073709551616 from rfl] at hr
  unfold encF
  by_cases h : revb 8 u = 0
  · rw [if_pos h]; exact .inl ⟨rfl, revb_zero u hu h⟩
  · rw [if_neg h]
    have := nb_le (revb 8 u) hr
    exact .inr ⟨nb (revb 8 u), this.1, this.2, rfl, decF_all u hu⟩

theorem round23_complex (x y : Nat) (hx : x < 18446744073709551616) (hy : y < 18446744073709551616) : Round23 (encF 12 x ++ encF 12 y) (.c128 x y) := by
  rcases encF12 y hy with ⟨ey, rfl⟩ | ⟨m, m1, m8, ey, dy⟩
  · rw [ey]
    rcases encF12 x hx with ⟨ex, rfl⟩ | ⟨k, k1, k8, ex, dx⟩
    · rw [ex]; exact round23_c0_0 [] [] rfl rfl 0 0 decF_nil decF_nil
    · rw [ex]
      obtain rfl | rfl | rfl | rfl | rfl | rfl | rfl | rfl : k = 1 ∨ k = 2 ∨ k = 3 ∨ k = 4 ∨ k = 5 ∨ k = 6 ∨ k = 7 ∨ k = 8 := by omega
      · exact round23_c1_0 _ [] (be_length _ _) rfl x 0 dx decF_nil
      · exact round23_c2_0 _ [] (be_length _ _) rfl x 0 dx decF_nil
      · exact round23_c3_0 _ [] (be_length _ _) rfl x 0 dx decF_nil
      · exact round23_c4_0 _ [] (be_length _ _) rfl x 0 dx decF_nil
      · exact round23_c5_0 _ [] (be_length _ _) rfl x 0 dx decF_nil
      · exact round23_c6_0 _ [] (be_length _ _) rfl x 0 dx decF_nil
      · exact round23_c7_0 _ [] (be_length _ _) rfl x 0 dx decF_nil
      · exact round23_c8_0 _ [] (be_length _ _) rfl x 0 dx decF_nil
  · rw [ey]
    rcases encF12 x hx with ⟨ex, rfl⟩ | ⟨k, k1, k8, ex, dx⟩
    · rw [ex]; exact round23_c0_1 [] _ rfl m m1 m8 (be_length _ _) 0 y decF_nil dy
    · rw [ex]
      obtain rfl | rfl | rfl | rfl | rfl | rfl | rfl | rfl : k = 1 ∨ k = 2 ∨ k = 3 ∨ k = 4 ∨ k = 5 ∨ k = 6 ∨ k = 7 ∨ k = 8 := by omega
      · exact round23_c1_1 _ _ (be_length _ _) m m1 m8 (be_length _ _) x y dx dy
      · exact round23_c2_1 _ _ (be_length _ _) m m1 m8 (be_length _ _) x y dx dy
      · exact round23_c3_1 _ _ (be_length _ _) m m1 m8 (be_length _ _) x y dx dy
      · exact round23_c4_1 _ _ (be_length _ _) m m1 m8 (be_length _ _) x y dx dy
      · exact round23_c5_1 _ _ (be_length _ _) m m1 m8 (be_length _ _) x y dx dy
      · exact round23_c6_1 _ _ (be_length _ _) m m1 m8 (be_length _ _) x y dx dy
      · exact round23_c7_1 _ _ (be_length _ _) m m1 m8 (be_length _ _) x y dx dy
      · exact round23_c8_1 _ _ (be_length _ _) m m1 m8 (be_length _ _) x y dx dy

/-- the bytes of bytes -/
def enc_byt (xs : List UInt8) : List UInt8 := if xs.length ≤ 17 then UInt8.ofNat (21 + xs.length) :: xs else if xs.length ≤ 255 then 39 :: UInt8.ofNat xs.length :: xs else 40 :: (be 2 ((xs.length : Int) - 1) ++ xs)

theorem round23_bytes (xs : List UInt8) (hl : xs.length ≤ 65535) : Round23 (enc_byt xs) (.byt xs) := by
  unfold enc_byt
  by_cases h : xs.length ≤ 17
  · rw [if_pos h]
    obtain h | h | h | h | h | h | h | h | h | h | h | h | h | h | h | h | h | h : xs.length = 0 ∨ xs.length = 1 ∨ xs.length = 2 ∨ xs.length = 3 ∨ xs.length = 4 ∨ xs.length = 5 ∨ xs.length = 6 ∨ xs.length = 7 ∨ xs.length = 8 ∨ xs.length = 9 ∨ xs.length = 10 ∨ xs.length = 11 ∨ xs.length = 12 ∨ xs.length = 13 ∨ xs.length = 14 ∨ xs.length = 15 ∨ xs.length = 16 ∨ xs.length = 17 := by omega
    · rw [h]; exact round23_b0 xs h
    · rw [h]; exact round23_b1 xs h
    · rw [h]; exact round23_b2 xs h
    · rw [h]; exact round23_b3 xs h
    · rw [h]; exact round23_b4 xs h
    · rw [h]; exact round23_b5 xs h
    · rw [h]; exact round23_b6 xs h
    · rw [h]; exact round23_b7 xs h
    · rw [h]; exact round23_b8 xs h
    · rw [h]; exact round23_b9 xs h
    · rw [h]; exact round23_b10 xs h
    · rw [h]; exact round23_b11 xs h
    · rw [h]; exact round23_b12 xs h
    · rw [h]; exact round23_b13 xs h
    · rw [h]; exact round23_b14 xs h
    · rw [h]; exact round23_b15 xs h
    · rw [h]; exact round23_b16 xs h
    · rw [h]; exact round23_b17 xs h
  rw [if_neg h]
  by_cases h2 : xs.length ≤ 255
  · rw [if_pos h2]
    exact round23_ba xs xs.length (by omega) h2 rfl
  rw [if_neg h2]
  exact round23_bz xs xs.length (by omega) (by omega) rfl

/-- the bytes of text -/
def enc_str (xs : List UInt8) : List UInt8 := if xs.length ≤ 17 then UInt8.ofNat (41 + xs.length) :: xs else if xs.length ≤ 255 then 59 :: (be 1 (xs.length : Int) ++ xs) else 60 :: (be 2 (xs.length : Int) ++ xs)

theorem round23_text (xs : List UInt8) (hl : xs.length ≤ 65535) : Round23 (enc_str xs) (.str xs) := by
  unfold enc_str
  by_cases h : xs.length ≤ 17
  · rw [if_pos h]
    obtain h | h | h | h | h | h | h | h | h | h | h | h | h | h | h | h | h | h : xs.length = 0 ∨ xs.length = 1 ∨ xs.length = 2 ∨ xs.length = 3 ∨ xs.length = 4 ∨ xs.length = 5 ∨ xs.length = 6 ∨ xs.length = 7 ∨ xs.length = 8 ∨ xs.length = 9 ∨ xs.length = 10 ∨ xs.length = 11 ∨ xs.length = 12 ∨ xs.length = 13 ∨ xs.length = 14 ∨ xs.length = 15 ∨ xs.length = 16 ∨ xs.length = 17 := by omega
    · rw [h]; exact round23_s0 xs h
    · rw [h]; exact round23_s1 xs h
    · rw [h]; exact round23_s2 xs h
    · rw [h]; exact round23_s3 xs h
    · rw [h]; exact round23_s4 xs h
    · rw [h]; exact round23_s5 xs h
    · rw [h]; exact round23_s6 xs h
    · rw [h]; exact round23_s7 xs h
    · rw [h]; exact round23_s8 xs h
    · rw [h]; exact round23_s9 xs h
    · rw [h]; exact round23_s10 xs h
    · rw [h]; exact round23_s11 xs h
    · rw [h]; exact round23_s12 xs h
    · rw [h]; exact round23_s13 xs h
    · rw [h]; exact round23_s14 xs h
    · rw [h]; exact round23_s15 xs h
    · rw [h]; exact round23_s16 xs h
    · rw [h]; exact round23_s17 xs h
  rw [if_neg h]
  by_cases h2 : xs.length ≤ 255
  · rw [if_pos h2]
    have e : be 1 (xs.length : Int) = [UInt8.ofNat xs.length] := by simp only [be, List.nil_append]; congr 2; omega
    rw [e]
    exact round23_sa xs xs.length (by omega) h2 rfl
  rw [if_neg h2]
  exact round23_sz xs xs.length (by omega) (by omega) rfl

/-- what EncodeScalars makes of a value -/
def enc : AV → List UInt8
  | .nil => [0] | .bool b => if b then [2] else [1]
  | .i8 n | .i16 n | .i32 n | .int n | .i64 n => encI n
  | .u8 n | .u16 n | .u32 n | .uint n | .u64 n => UInt8.ofNat (60 + nb n) :: be (nb n) n
  | .f32 _ r => encF 3 r | .f64 x => encF 3 x
  | .c64 _ _ r s => encF 12 r ++ encF 12 s | .c128 x y => encF 12 x ++ encF 12 y
  | .byt xs => enc_byt xs | .str xs => enc_str xs

/-- its numbers are small enough to be encoded -/
def AV.fits : AV → Prop
  | .f32 _ r => r < 18446744073709551616 | .f64 x => x < 18446744073709551616
  | .c64 _ _ r s => r < 18446744073709551616 ∧ s < 18446744073709551616 | .c128 x y => x < 18446744073709551616 ∧ y < 18446744073709551616
  | .byt xs | .str xs => xs.length ≤ 65535
  | _ => True

theorem round23_enc (x : AV) (hw : x.wf) (hf : x.fits) : Round23 (enc x) (ctOf x) := by
  cases x with
  | nil => exact round23_k0
  | bool b => cases b; exact round23_k1; exact round23_k2
  | i8 n => have h := hw; simp only [AV.wf] at h; exact round23_int n (by omega) (by omega)
  | i16 n => have h := hw; simp only [AV.wf] at h; exact round23_int n (by omega) (by omega)
  | i32 n => have h := hw; simp only [AV.wf] at h; exact round23_int n (by omega) (by omega)
  | int n => exact round23_int n hw.1 hw.2
  | i64 n => exact round23_int n hw.1 hw.2
  | u8 n => have h := hw; simp only [AV.wf] at h; exact round23_uintAll n (by omega)
  | u16 n => have h := hw; simp only [AV.wf] at h; exact round23_uintAll n (by omega)
  | u32 n => have h := hw; simp only [AV.wf] at h; exact round23_uintAll n (by omega)
  | uint n => exact round23_uintAll n hw
  | u64 n => exact round23_uintAll n hw
  | f32 x r => exact round23_float r hf
  | f64 x => exact round23_float x hf
  | c64 x y r s => exact round23_complex r s hf.1 hf.2
  | c128 x y => exact round23_complex x y hf.1 hf.2
  | byt xs => exact round23_bytes xs hf
  | str xs => exact round23_text xs hf

theorem round20_enc (x : AV) (hw : x.wf) (hf : x.fits) : Round20 x (enc x) := by
  cases x with
  | nil => exact round20_nil
  | bool b => cases b; exact round20_false; exact round20_true
  | i8 n => exact round20_i8 n hw.1 hw.2
  | i16 n => exact round20_i16 n hw.1 hw.2
  | i32 n => exact round20_i32 n hw.1 hw.2
  | int n => exact round20_int n hw.1 hw.2
  | i64 n => exact round20_i64 n hw.1 hw.2
  | u8 n => exact round20_u8 n hw
  | u16 n => exact round20_u16 n hw
  | u32 n => exact round20_u32 n hw
  | uint n => exact round20_uint n hw
  | u64 n => exact round20_u64 n hw
  | f32 x r => exact round20_f32 x r hw hf
  | f64 x => exact round20_f64 x hf
  | c64 x y r s => exact round20_c64 x y r s hw.1 hw.2 hf.1 hf.2
  | c128 x y => exact round20_c128 x y hf.1 hf.2
  | byt xs =>
    simp only [AV.fits] at hf
    show Round20 (.byt xs) (enc_byt xs)
    unfold enc_byt
    by_cases h : xs.length ≤ 17
    · rw [if_pos h]; exact round20_byt0 xs h (by omega)
    rw [if_neg h]
    by_cases h2 : xs.length ≤ 255
    · rw [if_pos h2]; exact round20_byt1 xs (by omega) h2
    rw [if_neg h2]; exact round20_byt2 xs (by omega) (by omega)
  | str xs =>
    simp only [AV.fits] at hf
    show Round20 (.str xs) (enc_str xs)
    unfold enc_str
    by_cases h : xs.length ≤ 17
    · rw [if_pos h]; exact round20_str0 xs h (by omega)
    rw [if_neg h]
    by_cases h2 : xs.length ≤ 255
    · rw [if_pos h2]; exact round20_str1 xs (by omega) h2
    rw [if_neg h2]; exact round20_str2 xs (by omega) hf

theorem scal_ct (x : AV) (hw : x.wf) (hf : x.fits) : Scal25 (ctOf x) := by
  cases x with
  | nil => exact scal_nil
  | bool b => exact scal_bool b
  | i8 n => have h := hw; simp only [AV.wf] at h; exact scal_i64 n (by omega) (by omega)
  | i16 n => have h := hw; simp only [AV.wf] at h; exact scal_i64 n (by omega) (by omega)
  | i32 n => have h := hw; simp only [AV.wf] at h; exact scal_i64 n (by omega) (by omega)
  | int n => exact scal_i64 n hw.1 hw.2
  | i64 n => exact scal_i64 n hw.1 hw.2
  | u8 n => have h := hw; simp only [AV.wf] at h; exact scal_u64 n (by omega)
  | u16 n => have h := hw; simp only [AV.wf] at h; exact scal_u64 n (by omega)
  | u32 n => have h := hw; simp only [AV.wf] at h; exact scal_u64 n (by omega)
  | uint n => exact scal_u64 n hw
  | u64 n => exact scal_u64 n hw
  | f32 x r => exact scal_f64 r hf
  | f64 x => exact scal_f64 x hf
  | c64 x y r s => exact scal_c128 r s hf.1 hf.2
  | c128 x y => exact scal_c128 x y hf.1 hf.2
  | byt xs => exact scal_byt xs (Nat.le_trans hf (by omega))
  | str xs => exact scal_str xs (Nat.le_trans hf (by omega))

end Go.Proofs.YtaoonpncnahhgaaDoor
