/-
  File.Fits.
-/
import Derived.Test.YtkkliejgmgmebaaGreatDoorSb
namespace Go.Proofs.YtkkliejgmgmebaaGreatDoor
open Go.RowKit

/-- is this call one of which something is said? -/
def fitsB (len : Nat) (kind off size : Int) (dn : Nat) : Bool :=
  if kind = 0 then decide (0 ≤ off ∧ off ≤ 131072 ∧ 0 < dn ∧ dn ≤ 131072)
  else if kind = 1 then decide (0 ≤ off ∧ off ≤ 131072 ∧ 0 < size ∧ size ≤ 65536)
  else if kind = 2 then decide (0 ≤ size ∧ size ≤ 131072)
  else if kind = 3 then decide (0 ≤ off ∧ 0 ≤ size ∧ size ≤ 131072 ∧ off ≤ 131072 ∧ off + size ≤ (len : Int))
  else decide (4 ≤ kind ∧ kind ≤ 7)

theorem ret_bool {a b : Bool} (h : a = b) : Ending.returned (.bool a) = .returned (.bool b) := by rw [h]
theorem keepsN {Pr : Nat → Prop} {w : World} (hi : Inw Pr w) (o : Obj) (n : Nat) : Keeps Pr w ((w.alloc o).drewN n) := ⟨rfl, rfl, rfl, by show w.heap.size ≤ (w.alloc o).heap.size; simp, fun k hk => Below.heap_alloc _ _ _ (hi k hk)⟩

set_option maxRecDepth 100000 in
set_option maxHeartbeats 4000000 in
theorem fits_0 (Pr : Nat → Prop) (w : World) (g : FP) (len : Nat) (off size : Int) (da : Option Addr) (dn dc : Nat) (hd : dn ≤ 9223372036854775807) (hin : Inw Pr w) :
    Calls Tryz.prog 14 #[.pointer (some ⟨g.b, g.o, none⟩), .agg #[.int .i64 0, .int .i64 off, .int .i64 size, .slice da dn dc]] w fun e w' => e = .returned (.bool (fitsB len 0 off size dn)) ∧ Keeps Pr w w' := by
  have HI := Lib.hid hin
  clear hin
  by_cases g0 : off < 0
  · skip
    go_enter Tryz.func14, Tryz.ntmps14
    (repeat (first | go_values | go_skip | go_guarded | go_step | go_upon))
    go_ret
    exact ⟨ret_bool (by rw [Bool.eq_iff_iff]; simp [fitsB]; try omega), Keeps.alloc HI.out _⟩
  have h0 : 0 ≤ off := by omega
  clear g0
  by_cases g1 : 131072 < off
  · skip
    go_enter Tryz.func14, Tryz.ntmps14
    (repeat (first | go_values | go_skip | go_guarded | go_step | go_upon))
    go_ret
    exact ⟨ret_bool (by rw [Bool.eq_iff_iff]; simp [fitsB]; try omega), Keeps.alloc HI.out _⟩
  have h1 : off ≤ 131072 := by omega
  clear g1
  by_cases g2 : dn = 0
  · skip
    go_enter Tryz.func14, Tryz.ntmps14
    (repeat (first | go_values | go_skip | go_guarded | go_step | go_upon))
    go_ret
    exact ⟨ret_bool (by rw [Bool.eq_iff_iff]; simp [fitsB]; try omega), Keeps.alloc HI.out _⟩
  have h2 : 0 < dn := by omega
  clear g2
  by_cases g3 : 131072 < dn
  · skip
    go_enter Tryz.func14, Tryz.ntmps14
    (repeat (first | go_values | go_skip | go_guarded | go_step | go_upon))
    go_ret
    exact ⟨ret_bool (by rw [Bool.eq_iff_iff]; simp [fitsB]; try omega), Keeps.alloc HI.out _⟩
  have h3 : dn ≤ 131072 := by omega
  clear g3
  go_enter Tryz.func14, Tryz.ntmps14
  (repeat (first | go_values | go_skip | go_guarded | go_step | go_upon))
  go_ret
  exact ⟨ret_bool (by rw [Bool.eq_iff_iff]; simp [fitsB]; try omega), Keeps.alloc HI.out _⟩

set_option maxRecDepth 100000 in
set_option maxHeartbeats 4000000 in
theorem fits_1 (Pr : Nat → Prop) (w : World) (g : FP) (len : Nat) (off size : Int) (da : Option Addr) (dn dc : Nat) (hin : Inw Pr w) :
    Calls Tryz.prog 14 #[.pointer (some ⟨g.b, g.o, none⟩), .agg #[.int .i64 1, .int .i64 off, .int .i64 size, .slice da dn dc]] w fun e w' => e = .returned (.bool (fitsB len 1 off size dn)) ∧ Keeps Pr w w' := by
  have HI := Lib.hid hin
  clear hin
  by_cases g0 : off < 0
  · skip
    go_enter Tryz.func14, Tryz.ntmps14
    (repeat (first | go_values | go_skip | go_guarded | go_step | go_upon))
    go_ret
    exact ⟨ret_bool (by rw [Bool.eq_iff_iff]; simp [fitsB]; try omega), Keeps.alloc HI.out _⟩
  have h0 : 0 ≤ off := by omega
  clear g0
  by_cases g1 : 131072 < off
  · skip
    go_enter Tryz.func14, Tryz.ntmps14
    (repeat (first | go_values | go_skip | go_guarded | go_step | go_upon))
    go_ret
    exact ⟨ret_bool (by rw [Bool.eq_iff_iff]; simp [fitsB]; try omega), Keeps.alloc HI.out _⟩
  have h1 : off ≤ 131072 := by omega
  clear g1
  by_cases g2 : size ≤ 0
  · skip
    go_enter Tryz.func14, Tryz.ntmps14
    (repeat (first | go_values | go_skip | go_guarded | go_step | go_upon))
    go_ret
    exact ⟨ret_bool (by rw [Bool.eq_iff_iff]; simp [fitsB]; try omega), Keeps.alloc HI.out _⟩
  have h2 : 0 < size := by omega
  clear g2
  by_cases g3 : 65536 < size
  · skip
    go_enter Tryz.func14, Tryz.ntmps14
    (repeat (first | go_values | go_skip | go_guarded | go_step | go_upon))
    go_ret
    exact ⟨ret_bool (by rw [Bool.eq_iff_iff]; simp [fitsB]; try omega), Keeps.alloc HI.out _⟩
  have h3 : size ≤ 65536 := by omega
  clear g3
  go_enter Tryz.func14, Tryz.ntmps14
  (repeat (first | go_values | go_skip | go_guarded | go_step | go_upon))
  go_ret
  exact ⟨ret_bool (by rw [Bool.eq_iff_iff]; simp [fitsB]; try omega), Keeps.alloc HI.out _⟩

set_option maxRecDepth 100000 in
set_option maxHeartbeats 4000000 in
theorem fits_2 (Pr : Nat → Prop) (w : World) (g : FP) (len : Nat) (off size : Int) (da : Option Addr) (dn dc : Nat) (hin : Inw Pr w) :
    Calls Tryz.prog 14 #[.pointer (some ⟨g.b, g.o, none⟩), .agg #[.int .i64 2, .int .i64 off, .int .i64 size, .slice da dn dc]] w fun e w' => e = .returned (.bool (fitsB len 2 off size dn)) ∧ Keeps Pr w w' := by
  have HI := Lib.hid hin
  clear hin
  by_cases g0 : size < 0
  · skip
    go_enter Tryz.func14, Tryz.ntmps14
    (repeat (first | go_values | go_skip | go_guarded | go_step | go_upon))
    go_ret
    exact ⟨ret_bool (by rw [Bool.eq_iff_iff]; simp [fitsB]; try omega), Keeps.alloc HI.out _⟩
  have h0 : 0 ≤ size := by omega
  clear g0
  by_cases g1 : 131072 < size
  · skip
    go_enter Tryz.func14, Tryz.ntmps14
    (repeat (first | go_values | go_skip | go_guarded | go_step | go_upon))
    go_ret
    exact ⟨ret_bool (by rw [Bool.eq_iff_iff]; simp [fitsB]; try omega), Keeps.alloc HI.out _⟩
  have h1 : size ≤ 131072 := by omega
  clear g1
  go_enter Tryz.func14, Tryz.ntmps14
  (repeat (first | go_values | go_skip | go_guarded | go_step | go_upon))
  go_ret
  exact ⟨ret_bool (by rw [Bool.eq_iff_iff]; simp [fitsB]; try omega), Keeps.alloc HI.out _⟩

set_option maxRecDepth 100000 in
set_option maxHeartbeats 4000000 in
theorem fits_3 (Pr : Nat → Prop) (w : World) (g : FP) (a : Option Addr) (len ca : Nat) (off size : Int) (da : Option Addr) (dn dc : Nat) (c0 : w.cell? ⟨g.b, g.o, none⟩ = some (.slice a len ca)) (hg : g.b < w.heap.size) (hl : len ≤ 100000000) (hin : Inw Pr w) :
    Calls Tryz.prog 14 #[.pointer (some ⟨g.b, g.o, none⟩), .agg #[.int .i64 3, .int .i64 off, .int .i64 size, .slice da dn dc]] w fun e w' => e = .returned (.bool (fitsB len 3 off size dn)) ∧ Keeps Pr w w' := by
  have HI := Lib.hid hin
  clear hin
  by_cases g0 : off < 0
  · skip
    have d0 : decide (0 ≤ off) = false := by simp; omega
    go_enter Tryz.func14, Tryz.ntmps14
    (repeat (first | go_values | go_skip | go_guarded | go_step | go_upon))
    go_quiet (fail)
    (repeat (first | go_values | go_skip | go_guarded | go_step | go_upon))
    go_ret
    exact ⟨ret_bool (by rw [Bool.eq_iff_iff]; simp [fitsB]; try omega), keepsN HI.out _ _⟩
  have h0 : 0 ≤ off := by omega
  clear g0
  have d0 : decide (0 ≤ off) = true := by simp; omega
  by_cases g1 : size < 0
  · skip
    have d1 : decide (0 ≤ size) = false := by simp; omega
    go_enter Tryz.func14, Tryz.ntmps14
    (repeat (first | go_values | go_skip | go_guarded | go_step | go_upon))
    go_quiet (fail)
    (repeat (first | go_values | go_skip | go_guarded | go_step | go_upon))
    go_ret
    exact ⟨ret_bool (by rw [Bool.eq_iff_iff]; simp [fitsB]; try omega), keepsN HI.out _ _⟩
  have h1 : 0 ≤ size := by omega
  clear g1
  have d1 : decide (0 ≤ size) = true := by simp; omega
  by_cases g2 : 131072 < size
  · skip
    have d2 : decide (size ≤ 131072) = false := by simp; omega
    go_enter Tryz.func14, Tryz.ntmps14
    (repeat (first | go_values | go_skip | go_guarded | go_step | go_upon))
    go_quiet (fail)
    (repeat (first | go_values | go_skip | go_guarded | go_step | go_upon))
    go_ret
    exact ⟨ret_bool (by rw [Bool.eq_iff_iff]; simp [fitsB]; try omega), keepsN HI.out _ _⟩
  have h2 : size ≤ 131072 := by omega
  clear g2
  have d2 : decide (size ≤ 131072) = true := by simp; omega
  by_cases g3 : 131072 < off
  · skip
    have d3 : decide (off ≤ 131072) = false := by simp; omega
    go_enter Tryz.func14, Tryz.ntmps14
    (repeat (first | go_values | go_skip | go_guarded | go_step | go_upon))
    go_quiet (fail)
    (repeat (first | go_values | go_skip | go_guarded | go_step | go_upon))
    go_ret
    exact ⟨ret_bool (by rw [Bool.eq_iff_iff]; simp [fitsB]; try omega), keepsN HI.out _ _⟩
  have h3 : off ≤ 131072 := by omega
  clear g3
  have d3 : decide (off ≤ 131072) = true := by simp; omega
  by_cases g4 : len < off + size
  · skip
    have d4 : decide (off + size ≤ (len : Int)) = false := by simp; omega
    go_enter Tryz.func14, Tryz.ntmps14
    (repeat (first | go_values | go_skip | go_guarded | go_step | go_upon))
    go_quiet (fail)
    (repeat (first | go_values | go_skip | go_guarded | go_step | go_upon))
    go_ret
    exact ⟨ret_bool (by rw [Bool.eq_iff_iff]; simp [fitsB]; try omega), keepsN HI.out _ _⟩
  have h4 : off + size ≤ len := by omega
  clear g4
  have d4 : decide (off + size ≤ (len : Int)) = true := by simp; omega
  go_enter Tryz.func14, Tryz.ntmps14
  (repeat (first | go_values | go_skip | go_guarded | go_step | go_upon))
  go_quiet (fail)
  (repeat (first | go_values | go_skip | go_guarded | go_step | go_upon))
  go_ret
  exact ⟨ret_bool (by rw [Bool.eq_iff_iff]; simp [fitsB]; try omega), keepsN HI.out _ _⟩

set_option maxRecDepth 100000 in
set_option maxHeartbeats 4000000 in
theorem fits_4 (Pr : Nat → Prop) (w : World) (g : FP) (len : Nat) (kind off size : Int) (da : Option Addr) (dn dc : Nat) (k0 : kind ≠ 0) (k1 : kind ≠ 1) (k2 : kind ≠ 2) (k3 : kind ≠ 3) (hin : Inw Pr w) :
    Calls Tryz.prog 14 #[.pointer (some ⟨g.b, g.o, none⟩), .agg #[.int .i64 kind, .int .i64 off, .int .i64 size, .slice da dn dc]] w fun e w' => e = .returned (.bool (fitsB len kind off size dn)) ∧ Keeps Pr w w' := by
  have HI := Lib.hid hin
  have b0 : (kind == 0) = false := by simpa using k0
  have b1 : (kind == 1) = false := by simpa using k1
  have b2 : (kind == 2) = false := by simpa using k2
  have b3 : (kind == 3) = false := by simpa using k3
  have e : fitsB len kind off size dn = decide (4 ≤ kind ∧ kind ≤ 7) := by unfold fitsB; rw [if_neg k0, if_neg k1, if_neg k2, if_neg k3]
  rw [e]
  clear hin k0 k1 k2 k3 e
  by_cases g0 : kind < 4
  · skip
    go_enter Tryz.func14, Tryz.ntmps14
    (repeat (first | go_values | go_skip | go_guarded | go_step | go_upon))
    go_ret
    exact ⟨ret_bool (by rw [Bool.eq_iff_iff]; simp; try omega), Keeps.alloc HI.out _⟩
  have h0 : 4 ≤ kind := by omega
  clear g0
  by_cases g1 : 7 < kind
  · skip
    go_enter Tryz.func14, Tryz.ntmps14
    (repeat (first | go_values | go_skip | go_guarded | go_step | go_upon))
    go_ret
    exact ⟨ret_bool (by rw [Bool.eq_iff_iff]; simp; try omega), Keeps.alloc HI.out _⟩
  have h1 : kind ≤ 7 := by omega
  clear g1
  go_enter Tryz.func14, Tryz.ntmps14
  (repeat (first | go_values | go_skip | go_guarded | go_step | go_upon))
  go_ret
  exact ⟨ret_bool (by rw [Bool.eq_iff_iff]; simp; try omega), Keeps.alloc HI.out _⟩

theorem fits_any (Pr : Nat → Prop) (w : World) (g : FP) (a : Option Addr) (len ca : Nat) (kind off size : Int) (da : Option Addr) (dn dc : Nat) (c0 : w.cell? ⟨g.b, g.o, none⟩ = some (.slice a len ca)) (hg : g.b < w.heap.size) (hl : len ≤ 100000000) (hd : dn ≤ 9223372036854775807) (hin : Inw Pr w) :
    Calls Tryz.prog 14 #[.pointer (some ⟨g.b, g.o, none⟩), .agg #[.int .i64 kind, .int .i64 off, .int .i64 size, .slice da dn dc]] w fun e w' => e = .returned (.bool (fitsB len kind off size dn)) ∧ Keeps Pr w w' := by
  by_cases k0 : kind = 0
  · subst k0; exact fits_0 Pr w g len off size da dn dc hd hin
  by_cases k1 : kind = 1
  · subst k1; exact fits_1 Pr w g len off size da dn dc hin
  by_cases k2 : kind = 2
  · subst k2; exact fits_2 Pr w g len off size da dn dc hin
  by_cases k3 : kind = 3
  · subst k3; exact fits_3 Pr w g a len ca off size da dn dc c0 hg hl hin
  exact fits_4 Pr w g len kind off size da dn dc k0 k1 k2 k3 hin

end Go.Proofs.YtkkliejgmgmebaaGreatDoor
