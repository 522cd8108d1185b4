/-
  The walks of the reference's functions on numbers.
-/
import Derived.Test.YtaoonpncnahhgaaDoorProg
import Derived.Test.YtaoonpncnahhgaaDoorDefs
import Derived.Outline
import Derived.BigQuiet
namespace Go.Proofs.YtaoonpncnahhgaaDoor
open Go.RowKit

theorem class_any (k : Int) (w : World) :
    Calls Tryd.prog 11 #[.int .i64 k] w fun e w' => e = .returned (.int .i64 (classOf k)) ∧ w = w' := by
  unfold classOf
  by_cases h0 : k = 0
  · subst h0
    go_enter Tryd.func11, Tryd.ntmps11
    go_wp2
    go_ret
    exact ⟨rfl, rfl⟩
  by_cases h1 : k = 1
  · subst h1
    go_enter Tryd.func11, Tryd.ntmps11
    go_wp2
    go_ret
    exact ⟨rfl, rfl⟩
  rw [if_neg h0, if_neg h1]
  by_cases h2 : k < 16
  · rw [if_pos h2]
    go_enter Tryd.func11, Tryd.ntmps11
    go_wp2
    go_ret
    exact ⟨rfl, rfl⟩
  rw [if_neg h2]
  by_cases h3 : k = 16
  · subst h3
    go_enter Tryd.func11, Tryd.ntmps11
    go_wp2
    go_ret
    exact ⟨rfl, rfl⟩
  rw [if_neg h3]
  go_enter Tryd.func11, Tryd.ntmps11
  go_wp2
  go_ret
  exact ⟨rfl, rfl⟩

/-- how far a box's number is from 2^64 -/
def boxFar (B : Nat) (w : World) : Nat := match w.cell? ⟨B, 1, none⟩ with | some v => 18446744073709551616 - (intOf v).toNat | none => 0
theorem boxFar_eq (w : World) (n : Bool) (m : Nat) (e : Int) (o : Obj) : boxFar w.heap.size ((w.alloc (.cells #[.bool n, .int .u64 (m : Int), .int .i64 e] 63)).alloc o) = 18446744073709551616 - m := by
  unfold boxFar
  simp [go_sem, intOf]
theorem two_below (w : World) (o p : Obj) : Below w.heap.size w ((w.alloc o).alloc p) := ((Below.refl _ _).alloc (Nat.le_refl _) _).alloc (by simp) _

theorem pow_step {m k M : Nat} (h0 : 0 < m) (h : m * 2 ^ k = M) (hM : M < 9223372036854775808) : k + 1 < 64 ∧ m * 2 ^ (k + 1) = M * 2 := by
  refine ⟨?_, by rw [Nat.pow_succ, ← Nat.mul_assoc, h]⟩
  have : 2 ^ k < 2 ^ 63 := by
    have := Nat.le_mul_of_pos_left (2 ^ k) h0
    omega
  have := (Nat.pow_lt_pow_iff_right (a := 2) (by omega)).1 this
  omega

theorem normal_any (neg : Bool) (m : Nat) (e : Int) (w : World) (hm : m < 18446744073709551616) (he : -10000 ≤ e) (he' : e ≤ 10000) :
    Calls Tryd.prog 27 #[numV neg m e] w fun e' w' => e' = .returned (nrm neg m e).v ∧ Below w.heap.size w w' := by
  rcases Nat.eq_zero_or_pos m with rfl | hm0
  · rw [nrm_zero]
    go_enter Tryd.func27, Tryd.ntmps27
    go_wp2_with fail
    exact bodyPost_ret (v := numV false 0 0) (by simp [results, Tryd.results27, go_sem]) rfl ⟨rfl, two_below _ _ _⟩
  · go_enter Tryd.func27, Tryd.ntmps27
    go_wp2_with fail
    go_loopw [7] (fun _ wr => ∃ M k : Nat, k < 64 ∧ m * 2 ^ k = M ∧ 0 < M ∧ M < 18446744073709551616 ∧ wr = ((w.alloc (numBox neg M (e - k))).alloc zeroBox)) (fun _ wr => boxFar w.heap.size wr)
    case atStart => exact ⟨m, 0, by omega, by simp, hm0, hm, by simp⟩
    case round =>
      obtain ⟨M, k, hk, hM, hM0, hM1, rfl⟩ := hrel
      have HM := Lib.hid hM
      clear hM
      by_cases hlt : M < 9223372036854775808
      · go_wp2_with fail
        have hs := pow_step hm0 HM.out hlt
        refine ⟨⟨M * 2, k + 1, hs.1, hs.2, by omega, by omega, ?_⟩, ?_⟩
        · unfold numBox; rw [show ((M * 2 : Nat) : Int) = (M : Int) * 2 from by omega, show e - (k : Int) - 1 = e - ((k + 1 : Nat) : Int) from by omega]
        · have h1 := boxFar_eq w neg (M * 2) (e - k - 1) zeroBox
          have h2 := boxFar_eq w neg M (e - k) zeroBox
          rw [show ((M * 2 : Nat) : Int) = (M : Int) * 2 from by omega] at h1
          rw [h1, h2]
          omega
      · go_wp2_with fail
        have hr := nrm_of (neg := neg) (e := e) hm0 (by rw [HM.out]; omega) (by rw [HM.out]; omega)
        rw [HM.out] at hr
        exact bodyPost_ret (v := numV neg M (e - k)) (by simp [results, Tryd.results27, go_sem]) rfl ⟨by rw [hr], two_below _ _ _⟩


theorem ret_i {k : IntKind} {a b : Int} (h : a = b) : Ending.returned (.int k a) = .returned (.int k b) := by rw [h]
set_option maxHeartbeats 2000000 in
theorem less_any (a b : Num) (w : World) (ha : a.m < 18446744073709551616) (hb : b.m < 18446744073709551616) :
    Calls Tryd.prog 26 #[a.v, b.v] w fun e w' => e = .returned (.int .i64 (lessN a b)) ∧ Below w.heap.size w w' := by
  obtain ⟨an, am, ae⟩ := a
  obtain ⟨bn, bm, be⟩ := b
  simp only at ha hb
  cases an <;> cases bn
  all_goals
    go_enter Tryd.func26, Tryd.ntmps26
    go_wp2_with fail
    all_goals go_ret
    all_goals refine ⟨ret_i ?_, two_below _ _ _⟩
    all_goals unfold lessN
    all_goals simp only [beq_iff_eq, bne_iff_ne, beq_eq_false_iff_ne, bne_eq_false_iff_eq, ne_eq, reduceCtorEq, Bool.false_eq_true, not_true_eq_false, not_false_eq_true, or_false, or_true, if_true, if_false] at *
    all_goals (repeat' split) <;> omega

end Go.Proofs.YtaoonpncnahhgaaDoor
