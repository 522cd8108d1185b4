/-
  The order of the reference's numbers is that of the numbers for which they stand: plain.
-/
import Derived.Test.YtaoonpncnahhgaaDoorDefs
namespace Go.Proofs.YtaoonpncnahhgaaDoor

def cmpI (a b : Int) : Int := if a < b then -1 else if b < a then 1 else 0
def sval (neg : Bool) (m d : Nat) : Int := if neg = true then -((m * 2 ^ d : Nat) : Int) else ((m * 2 ^ d : Nat) : Int)

theorem cmpI_mul (a b : Int) (c : Nat) (hc : 0 < c) : cmpI (a * c) (b * c) = cmpI a b := by
  have hc' : (0 : Int) < c := by omega
  have h1 : a * c < b * c ↔ a < b := ⟨fun h => Int.lt_of_mul_lt_mul_right h (by omega), fun h => Int.mul_lt_mul_of_pos_right h hc'⟩
  have h2 : b * c < a * c ↔ b < a := ⟨fun h => Int.lt_of_mul_lt_mul_right h (by omega), fun h => Int.mul_lt_mul_of_pos_right h hc'⟩
  unfold cmpI
  simp only [h1, h2]

theorem sval_add (neg : Bool) (m d k : Nat) : sval neg m (d + k) = sval neg m d * ((2 ^ k : Nat) : Int) := by
  unfold sval
  rw [Nat.pow_add, ← Nat.mul_assoc]
  cases neg <;> simp [Int.neg_mul]

/-- whatever the common place -/
theorem cmp_base (s t : Bool) (m n : Nat) (e f base base' : Int) (h : base' ≤ base) (he : base ≤ e) (hf : base ≤ f) :
    cmpI (sval s m (e - base').toNat) (sval t n (f - base').toNat) = cmpI (sval s m (e - base).toNat) (sval t n (f - base).toNat) := by
  have e1 : (e - base').toNat = (e - base).toNat + (base - base').toNat := by omega
  have e2 : (f - base').toNat = (f - base).toNat + (base - base').toNat := by omega
  rw [e1, e2, sval_add, sval_add, cmpI_mul _ _ _ (Nat.two_pow_pos _)]

theorem mag_lt {M N p q : Nat} (hM : M < 2 ^ 64) (hN : 2 ^ 63 ≤ N) (h : p < q) : M * 2 ^ p < N * 2 ^ q := by
  obtain ⟨d, rfl⟩ : ∃ d, q = p + 1 + d := ⟨q - p - 1, by omega⟩
  have h1 : M * 2 ^ p < 2 ^ 64 * 2 ^ p := Nat.mul_lt_mul_of_pos_right hM (Nat.two_pow_pos p)
  have h2 : 2 ^ 63 * 2 ^ (p + 1 + d) ≤ N * 2 ^ (p + 1 + d) := Nat.mul_le_mul_right _ hN
  have h3 : 2 ^ 64 * 2 ^ p ≤ 2 ^ 63 * 2 ^ (p + 1 + d) := by
    rw [← Nat.pow_add, ← Nat.pow_add]
    exact Nat.pow_le_pow_right (by omega) (by omega)
  omega

theorem less_top (s t : Bool) (M N : Nat) (E F base : Int) (hM : 2 ^ 63 ≤ M) (hM' : M < 2 ^ 64) (hN : 2 ^ 63 ≤ N) (hN' : N < 2 ^ 64) (hE : base ≤ E) (hF : base ≤ F) :
    lessN ⟨s, M, E⟩ ⟨t, N, F⟩ = cmpI (sval s M (E - base).toNat) (sval t N (F - base).toNat) := by
  have p1 : 0 < M * 2 ^ (E - base).toNat := Nat.mul_pos (by omega) (Nat.two_pow_pos _)
  have p2 : 0 < N * 2 ^ (F - base).toNat := Nat.mul_pos (by omega) (Nat.two_pow_pos _)
  have g1 : E < F → M * 2 ^ (E - base).toNat < N * 2 ^ (F - base).toNat := fun h => mag_lt hM' hN (by omega)
  have g2 : F < E → N * 2 ^ (F - base).toNat < M * 2 ^ (E - base).toNat := fun h => mag_lt hN' hM (by omega)
  have g3 : E = F → M < N → M * 2 ^ (E - base).toNat < N * 2 ^ (F - base).toNat := fun h h' => by
    subst h; exact Nat.mul_lt_mul_of_pos_right h' (Nat.two_pow_pos _)
  have g4 : E = F → N < M → N * 2 ^ (F - base).toNat < M * 2 ^ (E - base).toNat := fun h h' => by
    subst h; exact Nat.mul_lt_mul_of_pos_right h' (Nat.two_pow_pos _)
  have g5 : E = F → M = N → N * 2 ^ (F - base).toNat = M * 2 ^ (E - base).toNat := fun h h' => by
    subst h; subst h'; rfl
  unfold lessN cmpI sval
  generalize M * 2 ^ (E - base).toNat = A at *
  generalize N * 2 ^ (F - base).toNat = B at *
  have hm : M ≠ 0 := by omega
  have hn : N ≠ 0 := by omega
  simp only [hm, hn, false_and, if_false, false_or]
  rcases Int.lt_trichotomy E F with h | h | h
  · have k1 := g1 h
    cases s <;> cases t <;> simp [h] <;> omega
  · subst h
    rcases Nat.lt_trichotomy M N with h' | h' | h'
    · have k1 := g3 rfl h'
      cases s <;> cases t <;> simp [h'] <;> omega
    · have k1 := g5 rfl h'
      subst h'
      cases s <;> cases t <;> simp <;> omega
    · have k1 := g4 rfl h'
      have h'' : ¬ M < N := by omega
      cases s <;> cases t <;> simp [h', h''] <;> omega
  · have k1 := g2 h
    have h'' : ¬ E < F := by omega
    cases s <;> cases t <;> simp [h, h''] <;> omega

theorem nrm_val (neg : Bool) {m : Nat} (e base : Int) (h0 : m ≠ 0) (h : m < 2 ^ 64) (hb : base ≤ e - 63) :
    ∃ M E, nrm neg m e = ⟨neg, M, E⟩ ∧ 2 ^ 63 ≤ M ∧ M < 2 ^ 64 ∧ base ≤ E ∧ M * 2 ^ (E - base).toNat = m * 2 ^ (e - base).toNat := by
  have hl := Nat.log2_self_le h0
  have hu := Nat.lt_log2_self (n := m)
  have hlog : m.log2 < 64 := (Nat.log2_lt h0).2 h
  have e1 : 2 ^ m.log2 * 2 ^ (63 - m.log2) = 2 ^ 63 := by rw [← Nat.pow_add]; congr 1; omega
  have e2 : 2 ^ (m.log2 + 1) * 2 ^ (63 - m.log2) = 2 ^ 64 := by rw [← Nat.pow_add]; congr 1; omega
  refine ⟨m * 2 ^ (63 - m.log2), e - ((63 - m.log2 : Nat) : Int), by unfold nrm; rw [if_neg h0], ?_, ?_, by omega, ?_⟩
  · rw [← e1]; exact Nat.mul_le_mul_right _ hl
  · rw [← e2]; exact Nat.mul_lt_mul_of_pos_right hu (Nat.two_pow_pos _)
  · rw [Nat.mul_assoc, ← Nat.pow_add]; congr 2; omega

/-- ████ the order of two numbers is that of what they stand for, at any common place -/
theorem less_nrm (s t : Bool) (m n : Nat) (e f base : Int) (hm : m < 2 ^ 64) (hn : n < 2 ^ 64) (he : base ≤ e) (hf : base ≤ f) :
    lessN (nrm s m e) (nrm t n f) = cmpI (sval s m (e - base).toNat) (sval t n (f - base).toNat) := by
  rw [← cmp_base s t m n e f base (base - 63) (by omega) he hf]
  by_cases h0 : m = 0
  · subst h0
    by_cases h1 : n = 0
    · subst h1
      rw [nrm_zero, nrm_zero]
      unfold lessN cmpI sval
      cases s <;> cases t <;> simp
    · obtain ⟨N, F, h2, h3, h4, h5, h6⟩ := nrm_val t f (base - 63) h1 hn (by omega)
      rw [nrm_zero, h2]
      have hp : 0 < n * 2 ^ (f - (base - 63)).toNat := Nat.mul_pos (by omega) (Nat.two_pow_pos _)
      have hN : N ≠ 0 := by omega
      unfold lessN cmpI sval
      generalize n * 2 ^ (f - (base - 63)).toNat = A at *
      cases s <;> cases t <;> simp [hN] <;> omega
  · obtain ⟨M, E, g2, g3, g4, g5, g6⟩ := nrm_val s e (base - 63) h0 hm (by omega)
    have hp : 0 < m * 2 ^ (e - (base - 63)).toNat := Nat.mul_pos (by omega) (Nat.two_pow_pos _)
    have hM : M ≠ 0 := by omega
    by_cases h1 : n = 0
    · subst h1
      rw [nrm_zero, g2]
      unfold lessN cmpI sval
      generalize m * 2 ^ (e - (base - 63)).toNat = A at *
      cases s <;> cases t <;> simp [hM] <;> omega
    · obtain ⟨N, F, h2, h3, h4, h5, h6⟩ := nrm_val t f (base - 63) h1 hn (by omega)
      rw [g2, h2, less_top s t M N E F (base - 63) g3 g4 h3 h4 g5 h5]
      unfold sval
      rw [g6, h6]

theorem less_nat (m n : Nat) (hm : m < 2 ^ 64) (hn : n < 2 ^ 64) : lessN (nrm false m 0) (nrm false n 0) = cmpI m n := by
  rw [less_nrm false false m n 0 0 0 hm hn (by omega) (by omega)]
  simp [sval]

theorem cmpI_swap (a b : Int) : cmpI b a = - cmpI a b := by unfold cmpI; split <;> split <;> omega
theorem cmpI_self (a : Int) : cmpI a a = 0 := by simp [cmpI]

end Go.Proofs.YtaoonpncnahhgaaDoor
