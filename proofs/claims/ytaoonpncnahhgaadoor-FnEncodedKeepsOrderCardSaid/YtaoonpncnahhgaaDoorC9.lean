/-
  The package's Collate.
-/
import Derived.Test.YtaoonpncnahhgaaDoorC8
namespace Go.Proofs.YtaoonpncnahhgaaDoor
open Go.RowKit

set_option maxRecDepth 100000 in
set_option maxHeartbeats 2000000 in
theorem col_le (a1 a2 : Option Addr) (n1 n2 c1 c2 : Nat) (xs ys : List AV) (w : World) (hl1 : xs.length = n1) (hl2 : ys.length = n2) (h1 : 0 < n1) (h : n1 ≤ n2) (hn : n2 ≤ 2147483647)
    (hx : rdV w.heap.size w a1 xs) (hy : rdV w.heap.size w a2 ys) (hw : ∀ x ∈ xs, x.wf) (hw' : ∀ x ∈ ys, x.wf) :
    Calls Tryd.prog 30 #[.slice a1 n1 c1, .slice a2 n2 c2, .nilFunc] w fun e w' => e = .returned (.tuple #[.int .i64 (lexA xs ys), .nilIface]) ∧ w' = w := by
  have g1 : ((n1 : Int) == 0) = false := by rw [beq_eq_false_iff_ne]; omega
  have g2 : ((n2 : Int) == 0) = false := by rw [beq_eq_false_iff_ne]; omega
  have g3 : decide ((n2 : Int) < n1) = false := by simp; omega
  have g4 : ((n1 : Int) != 0) = true := by simp; omega
  have HX := Lib.hid hx
  have HY := Lib.hid hy
  have HL1 := Lib.hid hl1
  have HL2 := Lib.hid hl2
  have HW := Lib.hid hw
  have HW' := Lib.hid hw'
  clear hx hy hl1 hl2 hw hw'
  go_enter Tryd.func30, Tryd.ntmps30
  (repeat (first | go_values | go_skip | go_guarded | go_step | go_upon))
  refine loop30 _ w a1 n1 c1 xs a2 n2 c2 ys n1 n2 1 _ ⟨rfl, rfl, rfl, rfl, rfl, rfl, rfl, rfl, rfl, rfl, rfl, rfl⟩ HL1.out HL2.out h hn (.inl rfl) HX.out HY.out HW.out HW'.out ?_ ?_
  · intro a' h6 h7 h8 h9
    (repeat go_step)
    refine bodyPost_ret (results_tmp2 rfl _ _ _) h8 ?_
    rw [Int.one_mul] at h6
    exact ⟨by rw [h6, h7], rfl⟩
  · intro hR a' ha'
    have hR' := hR
    obtain ⟨u, rfl⟩ := ha'.frm
    clear ha'
    by_cases h5 : n1 = n2
    · have g5 : ((n1 : Int) == (n2 : Int)) = true := by simp; omega
      have hR2 : lexA xs ys = 0 := by
        rw [Int.one_mul, List.drop_eq_nil_of_le (by rw [HL2.out]; omega)] at hR'
        exact hR'
      have HR2 := Lib.hid hR2
      clear hR hR' hR2
      unfold frm
      (repeat (first | go_values | go_skip | go_guarded | go_step | go_upon))
      go_ret2
      exact ⟨by rw [HR2.out]; rfl, rfl⟩
    · have g5 : ((n1 : Int) == (n2 : Int)) = false := by rw [beq_eq_false_iff_ne]; omega
      have hR2 : lexA xs ys = -1 := by
        obtain ⟨y, t, e⟩ : ∃ y t, ys.drop n1 = y :: t := by
          cases e : ys.drop n1 with
          | nil => rw [List.drop_eq_nil_iff, HL2.out] at e; omega
          | cons y t => exact ⟨y, t, rfl⟩
        rw [Int.one_mul, e] at hR'
        rw [hR']; rfl
      have HR2 := Lib.hid hR2
      clear hR hR' hR2
      unfold frm
      (repeat (first | go_values | go_skip | go_guarded | go_step | go_upon))
      go_ret2
      exact ⟨by rw [HR2.out]; rfl, rfl⟩

set_option maxRecDepth 100000 in
set_option maxHeartbeats 2000000 in
theorem col_gt (a1 a2 : Option Addr) (n1 n2 c1 c2 : Nat) (xs ys : List AV) (w : World) (hl1 : xs.length = n1) (hl2 : ys.length = n2) (h1 : 0 < n2) (h : n2 < n1) (hn : n1 ≤ 2147483647)
    (hx : rdV w.heap.size w a1 xs) (hy : rdV w.heap.size w a2 ys) (hw : ∀ x ∈ xs, x.wf) (hw' : ∀ x ∈ ys, x.wf) :
    Calls Tryd.prog 30 #[.slice a1 n1 c1, .slice a2 n2 c2, .nilFunc] w fun e w' => e = .returned (.tuple #[.int .i64 (- lexA ys xs), .nilIface]) ∧ w' = w := by
  have g1 : ((n1 : Int) == 0) = false := by rw [beq_eq_false_iff_ne]; omega
  have g2 : ((n2 : Int) == 0) = false := by rw [beq_eq_false_iff_ne]; omega
  have g3 : decide ((n2 : Int) < n1) = true := by simp; omega
  have g4 : ((n1 : Int) != 0) = true := by simp; omega
  have HX := Lib.hid hx
  have HY := Lib.hid hy
  have HL1 := Lib.hid hl1
  have HL2 := Lib.hid hl2
  have HW := Lib.hid hw
  have HW' := Lib.hid hw'
  clear hx hy hl1 hl2 hw hw'
  go_enter Tryd.func30, Tryd.ntmps30
  (repeat (first | go_values | go_skip | go_guarded | go_step | go_upon))
  refine loop30 _ w a2 n2 c2 ys a1 n1 c1 xs n1 n2 (-1) _ ⟨rfl, rfl, rfl, rfl, rfl, rfl, rfl, rfl, rfl, rfl, rfl, rfl⟩ HL2.out HL1.out (Nat.le_of_lt h) hn (.inr rfl) HY.out HX.out HW'.out HW.out ?_ ?_
  · intro a' h6 h7 h8 h9
    (repeat go_step)
    refine bodyPost_ret (results_tmp2 rfl _ _ _) h8 ?_
    rw [Int.neg_mul, Int.one_mul] at h6
    exact ⟨by rw [h6, h7], rfl⟩
  · intro hR a' ha'
    have hR' := hR
    obtain ⟨u, rfl⟩ := ha'.frm
    clear ha'
    have g5 : ((n1 : Int) == (n2 : Int)) = false := by rw [beq_eq_false_iff_ne]; omega
    have hR2 : lexA ys xs = -1 := by
      obtain ⟨y, t, e⟩ : ∃ y t, xs.drop n2 = y :: t := by
        cases e : xs.drop n2 with
        | nil => rw [List.drop_eq_nil_iff, HL1.out] at e; omega
        | cons y t => exact ⟨y, t, rfl⟩
      rw [e] at hR'
      have : lexA [] (y :: t) = -1 := rfl
      omega
    have HR2 := Lib.hid hR2
    clear hR hR' hR2
    unfold frm
    (repeat (first | go_values | go_skip | go_guarded | go_step | go_upon))
    go_ret2
    exact ⟨by rw [HR2.out]; rfl, rfl⟩

set_option maxRecDepth 100000 in
set_option maxHeartbeats 2000000 in
theorem col_zero1 (a1 a2 : Option Addr) (n2 c1 c2 : Nat) (w : World) (h : 0 < n2) :
    Calls Tryd.prog 30 #[.slice a1 0 c1, .slice a2 n2 c2, .nilFunc] w fun e w' => e = .returned (.tuple #[.int .i64 (-1), .nilIface]) ∧ w' = w := by
  have g2 : ((n2 : Int) != 0) = true := by simp; omega
  go_enter Tryd.func30, Tryd.ntmps30
  (repeat (first | go_values | go_skip | go_guarded | go_step | go_upon))
  go_ret2
  exact ⟨rfl, rfl⟩
set_option maxRecDepth 100000 in
set_option maxHeartbeats 2000000 in
theorem col_zero2 (a1 a2 : Option Addr) (n1 c1 c2 : Nat) (w : World) (h : 0 < n1) :
    Calls Tryd.prog 30 #[.slice a1 n1 c1, .slice a2 0 c2, .nilFunc] w fun e w' => e = .returned (.tuple #[.int .i64 1, .nilIface]) ∧ w' = w := by
  have g1 : ((n1 : Int) == 0) = false := by rw [beq_eq_false_iff_ne]; omega
  have g2 : ((n1 : Int) != 0) = true := by simp; omega
  go_enter Tryd.func30, Tryd.ntmps30
  (repeat (first | go_values | go_skip | go_guarded | go_step | go_upon))
  go_ret2
  exact ⟨rfl, rfl⟩
set_option maxRecDepth 100000 in
set_option maxHeartbeats 2000000 in
theorem col_zero (a1 a2 : Option Addr) (c1 c2 : Nat) (w : World) :
    Calls Tryd.prog 30 #[.slice a1 0 c1, .slice a2 0 c2, .nilFunc] w fun e w' => e = .returned (.tuple #[.int .i64 0, .nilIface]) ∧ w' = w := by
  go_enter Tryd.func30, Tryd.ntmps30
  (repeat (first | go_values | go_skip | go_guarded | go_step | go_upon))
  go_ret2
  exact ⟨rfl, rfl⟩

/-- the package's order of two lists of values -/
def colA (xs ys : List AV) : Int := if ys.length < xs.length then - lexA ys xs else lexA xs ys

theorem col_any (a1 a2 : Option Addr) (n1 n2 c1 c2 : Nat) (xs ys : List AV) (w : World) (hl1 : xs.length = n1) (hl2 : ys.length = n2) (hn1 : n1 ≤ 2147483647) (hn : n2 ≤ 2147483647)
    (hx : rdV w.heap.size w a1 xs) (hy : rdV w.heap.size w a2 ys) (hw : ∀ x ∈ xs, x.wf) (hw' : ∀ x ∈ ys, x.wf) :
    Calls Tryd.prog 30 #[.slice a1 n1 c1, .slice a2 n2 c2, .nilFunc] w fun e w' => e = .returned (.tuple #[.int .i64 (colA xs ys), .nilIface]) ∧ w' = w := by
  unfold colA
  rw [hl1, hl2]
  rcases Nat.eq_zero_or_pos n1 with h1 | h1
  · subst h1
    obtain rfl := List.eq_nil_of_length_eq_zero hl1
    rcases Nat.eq_zero_or_pos n2 with h2 | h2
    · subst h2
      obtain rfl := List.eq_nil_of_length_eq_zero hl2
      exact col_zero a1 a2 c1 c2 w
    · rw [if_neg (by omega)]
      cases ys with
      | nil => simp at hl2; omega
      | cons y t => exact col_zero1 a1 a2 n2 c1 c2 w h2
  · rcases Nat.eq_zero_or_pos n2 with h2 | h2
    · subst h2
      obtain rfl := List.eq_nil_of_length_eq_zero hl2
      rw [if_pos h1]
      cases xs with
      | nil => simp at hl1; omega
      | cons y t => exact col_zero2 a1 a2 n1 c1 c2 w h1
    · by_cases h : n2 < n1
      · rw [if_pos h]
        exact col_gt a1 a2 n1 n2 c1 c2 xs ys w hl1 hl2 h2 h hn1 hx hy hw hw'
      · rw [if_neg h]
        exact col_le a1 a2 n1 n2 c1 c2 xs ys w hl1 hl2 h1 (by omega) hn hx hy hw hw'

end Go.Proofs.YtaoonpncnahhgaaDoor
