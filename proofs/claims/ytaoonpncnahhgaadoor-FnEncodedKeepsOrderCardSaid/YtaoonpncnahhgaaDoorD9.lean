/-
  decodeFloat.
-/
import Derived.Test.YtaoonpncnahhgaaDoorD8
namespace Go.Proofs.YtaoonpncnahhgaaDoor
open Go.RowKit

theorem or_shift (A x s : Nat) (hA : A < 2 ^ s) (h : x * 2 ^ s < 18446744073709551616) (hs : s ≤ 56) : bits .or .u64 (A : Int) (((x * 2 ^ s : Nat) : Nat) : Int) = ((A + x * 2 ^ s : Nat) : Int) := by
  have h2 : 2 ^ s ≤ 2 ^ 56 := Nat.pow_le_pow_right (by omega) hs
  rw [u64_or_nat A (x * 2 ^ s) (by omega) h, Nat.or_comm, Nat.mul_comm x]
  have h := Nat.two_pow_add_eq_or_of_lt hA x
  rw [← h]
  omega

set_option maxRecDepth 100000 in
set_option maxHeartbeats 4000000 in
theorem decFloat_1 (b o c : Nat) (x0 : Nat) (w : World) (h0 : x0 < 256) (c0 : w.cell? ⟨b, o, none⟩ = some (.int .u8 (x0 : Int))) :
    Calls Tryd.prog 39 #[.slice (some ⟨b, o, none⟩) 1 c] w fun e w' => e = .returned (.float .f64 (x0 * 72057594037927936)) ∧ w' = w := by
  have hfb := run_frombits
  obtain ⟨A, A0, A1⟩ : ∃ A : Nat → Nat, A 0 = 0 ∧ A 1 = x0 * 72057594037927936 :=
    ⟨fun j => match j with | 0 => 0 | _ => x0 * 72057594037927936, rfl, rfl⟩
  have HA := Lib.hid A1
  go_enter Tryd.func39, Tryd.ntmps39
  (repeat (first | go_values | go_skip | go_guarded | go_step | go_upon))
  go_loopw [3, 8] (fun a i wr => ∃ j : Nat, j ≤ 1 ∧ i = .int .i64 j ∧ a = .int .u64 ((A j : Nat) : Int) ∧ wr = w) (fun _ i _ => 1 - (intOf i).toNat)
  case atStart => exact ⟨0, by omega, rfl, by rw [A0]; rfl, rfl⟩
  case round =>
    obtain ⟨j, hj, rfl, rfl, rfl⟩ := hrel
    obtain rfl | rfl : j = 0 ∨ j = 1 := by omega
    · have e1 : A 1 = A 0 + x0 * 72057594037927936 := by rw [A1, A0]; omega
      have hb : A 0 < 72057594037927936 := by rw [A0]; omega
      have hor := or_shift (A 0) x0 56 hb (by omega) (by omega)
      rw [show ((x0 * 2 ^ 56 : Nat) : Int) = (x0 : Int) * 72057594037927936 by omega, show ((A 0 + x0 * 2 ^ 56 : Nat) : Int) = ((A 0 : Nat) : Int) + (x0 : Int) * 72057594037927936 by omega] at hor
      have E1 := Lib.hid e1
      clear e1 A0 A1
      generalize A 0 = y at *
      (repeat (first | go_values | go_skip | go_guarded | go_step | go_upon))
      go_roundw
      case rel => exact ⟨1, by omega, by go_num, by rw [E1.out]; exact congrArg (Value.int .u64) (by omega), trivial⟩
      case measure => simp [intOf]
    · clear A0 A1
      generalize A 1 = y at *
      (repeat (first | go_values | go_skip | go_guarded | go_step | go_upon))
      go_ret
      exact ⟨by rw [← HA.out]; rfl, rfl⟩

set_option maxRecDepth 100000 in
set_option maxHeartbeats 4000000 in
theorem decFloat_2 (b o c : Nat) (x0 x1 : Nat) (w : World) (h0 : x0 < 256) (h1 : x1 < 256) (c0 : w.cell? ⟨b, o, none⟩ = some (.int .u8 (x0 : Int))) (c1 : w.cell? ⟨b, o + 1, none⟩ = some (.int .u8 (x1 : Int))) :
    Calls Tryd.prog 39 #[.slice (some ⟨b, o, none⟩) 2 c] w fun e w' => e = .returned (.float .f64 (x0 * 281474976710656 + x1 * 72057594037927936)) ∧ w' = w := by
  have hfb := run_frombits
  obtain ⟨A, A0, A1, A2⟩ : ∃ A : Nat → Nat, A 0 = 0 ∧ A 1 = x0 * 281474976710656 ∧ A 2 = x0 * 281474976710656 + x1 * 72057594037927936 :=
    ⟨fun j => match j with | 0 => 0 | 1 => x0 * 281474976710656 | _ => x0 * 281474976710656 + x1 * 72057594037927936, rfl, rfl, rfl⟩
  have HA := Lib.hid A2
  go_enter Tryd.func39, Tryd.ntmps39
  (repeat (first | go_values | go_skip | go_guarded | go_step | go_upon))
  go_loopw [3, 8] (fun a i wr => ∃ j : Nat, j ≤ 2 ∧ i = .int .i64 j ∧ a = .int .u64 ((A j : Nat) : Int) ∧ wr = w) (fun _ i _ => 2 - (intOf i).toNat)
  case atStart => exact ⟨0, by omega, rfl, by rw [A0]; rfl, rfl⟩
  case round =>
    obtain ⟨j, hj, rfl, rfl, rfl⟩ := hrel
    obtain rfl | rfl | rfl : j = 0 ∨ j = 1 ∨ j = 2 := by omega
    · have e1 : A 1 = A 0 + x0 * 281474976710656 := by rw [A1, A0]; omega
      have hb : A 0 < 281474976710656 := by rw [A0]; omega
      have hor := or_shift (A 0) x0 48 hb (by omega) (by omega)
      rw [show ((x0 * 2 ^ 48 : Nat) : Int) = (x0 : Int) * 281474976710656 by omega, show ((A 0 + x0 * 2 ^ 48 : Nat) : Int) = ((A 0 : Nat) : Int) + (x0 : Int) * 281474976710656 by omega] at hor
      have E1 := Lib.hid e1
      clear e1 A0 A1 A2
      generalize A 0 = y at *
      (repeat (first | go_values | go_skip | go_guarded | go_step | go_upon))
      go_roundw
      case rel => exact ⟨1, by omega, by go_num, by rw [E1.out]; exact congrArg (Value.int .u64) (by omega), trivial⟩
      case measure => simp [intOf]
    · have e1 : A 2 = A 1 + x1 * 72057594037927936 := by rw [A2, A1]
      have hb : A 1 < 72057594037927936 := by rw [A1]; omega
      have hor := or_shift (A 1) x1 56 hb (by omega) (by omega)
      rw [show ((x1 * 2 ^ 56 : Nat) : Int) = (x1 : Int) * 72057594037927936 by omega, show ((A 1 + x1 * 2 ^ 56 : Nat) : Int) = ((A 1 : Nat) : Int) + (x1 : Int) * 72057594037927936 by omega] at hor
      have E1 := Lib.hid e1
      clear e1 A0 A1 A2
      generalize A 1 = y at *
      (repeat (first | go_values | go_skip | go_guarded | go_step | go_upon))
      go_roundw
      case rel => exact ⟨2, by omega, by go_num, by rw [E1.out]; exact congrArg (Value.int .u64) (by omega), trivial⟩
      case measure => simp [intOf]
    · clear A0 A1 A2
      generalize A 2 = y at *
      (repeat (first | go_values | go_skip | go_guarded | go_step | go_upon))
      go_ret
      exact ⟨by rw [← HA.out]; rfl, rfl⟩

set_option maxRecDepth 100000 in
set_option maxHeartbeats 4000000 in
theorem decFloat_3 (b o c : Nat) (x0 x1 x2 : Nat) (w : World) (h0 : x0 < 256) (h1 : x1 < 256) (h2 : x2 < 256) (c0 : w.cell? ⟨b, o, none⟩ = some (.int .u8 (x0 : Int))) (c1 : w.cell? ⟨b, o + 1, none⟩ = some (.int .u8 (x1 : Int))) (c2 : w.cell? ⟨b, o + 2, none⟩ = some (.int .u8 (x2 : Int))) :
    Calls Tryd.prog 39 #[.slice (some ⟨b, o, none⟩) 3 c] w fun e w' => e = .returned (.float .f64 (x0 * 1099511627776 + x1 * 281474976710656 + x2 * 72057594037927936)) ∧ w' = w := by
  have hfb := run_frombits
  obtain ⟨A, A0, A1, A2, A3⟩ : ∃ A : Nat → Nat, A 0 = 0 ∧ A 1 = x0 * 1099511627776 ∧ A 2 = x0 * 1099511627776 + x1 * 281474976710656 ∧ A 3 = x0 * 1099511627776 + x1 * 281474976710656 + x2 * 72057594037927936 :=
    ⟨fun j => match j with | 0 => 0 | 1 => x0 * 1099511627776 | 2 => x0 * 1099511627776 + x1 * 281474976710656 | _ => x0 * 1099511627776 + x1 * 281474976710656 + x2 * 72057594037927936, rfl, rfl, rfl, rfl⟩
  have HA := Lib.hid A3
  go_enter Tryd.func39, Tryd.ntmps39
  (repeat (first | go_values | go_skip | go_guarded | go_step | go_upon))
  go_loopw [3, 8] (fun a i wr => ∃ j : Nat, j ≤ 3 ∧ i = .int .i64 j ∧ a = .int .u64 ((A j : Nat) : Int) ∧ wr = w) (fun _ i _ => 3 - (intOf i).toNat)
  case atStart => exact ⟨0, by omega, rfl, by rw [A0]; rfl, rfl⟩
  case round =>
    obtain ⟨j, hj, rfl, rfl, rfl⟩ := hrel
    obtain rfl | rfl | rfl | rfl : j = 0 ∨ j = 1 ∨ j = 2 ∨ j = 3 := by omega
    · have e1 : A 1 = A 0 + x0 * 1099511627776 := by rw [A1, A0]; omega
      have hb : A 0 < 1099511627776 := by rw [A0]; omega
      have hor := or_shift (A 0) x0 40 hb (by omega) (by omega)
      rw [show ((x0 * 2 ^ 40 : Nat) : Int) = (x0 : Int) * 1099511627776 by omega, show ((A 0 + x0 * 2 ^ 40 : Nat) : Int) = ((A 0 : Nat) : Int) + (x0 : Int) * 1099511627776 by omega] at hor
      have E1 := Lib.hid e1
      clear e1 A0 A1 A2 A3
      generalize A 0 = y at *
      (repeat (first | go_values | go_skip | go_guarded | go_step | go_upon))
      go_roundw
      case rel => exact ⟨1, by omega, by go_num, by rw [E1.out]; exact congrArg (Value.int .u64) (by omega), trivial⟩
      case measure => simp [intOf]
    · have e1 : A 2 = A 1 + x1 * 281474976710656 := by rw [A2, A1]
      have hb : A 1 < 281474976710656 := by rw [A1]; omega
      have hor := or_shift (A 1) x1 48 hb (by omega) (by omega)
      rw [show ((x1 * 2 ^ 48 : Nat) : Int) = (x1 : Int) * 281474976710656 by omega, show ((A 1 + x1 * 2 ^ 48 : Nat) : Int) = ((A 1 : Nat) : Int) + (x1 : Int) * 281474976710656 by omega] at hor
      have E1 := Lib.hid e1
      clear e1 A0 A1 A2 A3
      generalize A 1 = y at *
      (repeat (first | go_values | go_skip | go_guarded | go_step | go_upon))
      go_roundw
      case rel => exact ⟨2, by omega, by go_num, by rw [E1.out]; exact congrArg (Value.int .u64) (by omega), trivial⟩
      case measure => simp [intOf]
    · have e1 : A 3 = A 2 + x2 * 72057594037927936 := by rw [A3, A2]
      have hb : A 2 < 72057594037927936 := by rw [A2]; omega
      have hor := or_shift (A 2) x2 56 hb (by omega) (by omega)
      rw [show ((x2 * 2 ^ 56 : Nat) : Int) = (x2 : Int) * 72057594037927936 by omega, show ((A 2 + x2 * 2 ^ 56 : Nat) : Int) = ((A 2 : Nat) : Int) + (x2 : Int) * 72057594037927936 by omega] at hor
      have E1 := Lib.hid e1
      clear e1 A0 A1 A2 A3
      generalize A 2 = y at *
      (repeat (first | go_values | go_skip | go_guarded | go_step | go_upon))
      go_roundw
      case rel => exact ⟨3, by omega, by go_num, by rw [E1.out]; exact congrArg (Value.int .u64) (by omega), trivial⟩
      case measure => simp [intOf]
    · clear A0 A1 A2 A3
      generalize A 3 = y at *
      (repeat (first | go_values | go_skip | go_guarded | go_step | go_upon))
      go_ret
      exact ⟨by rw [← HA.out]; rfl, rfl⟩

set_option maxRecDepth 100000 in
set_option maxHeartbeats 4000000 in
theorem decFloat_4 (b o c : Nat) (x0 x1 x2 x3 : Nat) (w : World) (h0 : x0 < 256) (h1 : x1 < 256) (h2 : x2 < 256) (h3 : x3 < 256) (c0 : w.cell? ⟨b, o, none⟩ = some (.int .u8 (x0 : Int))) (c1 : w.cell? ⟨b, o + 1, none⟩ = some (.int .u8 (x1 : Int))) (c2 : w.cell? ⟨b, o + 2, none⟩ = some (.int .u8 (x2 : Int))) (c3 : w.cell? ⟨b, o + 3, none⟩ = some (.int .u8 (x3 : Int))) :
    Calls Tryd.prog 39 #[.slice (some ⟨b, o, none⟩) 4 c] w fun e w' => e = .returned (.float .f64 (x0 * 4294967296 + x1 * 1099511627776 + x2 * 281474976710656 + x3 * 72057594037927936)) ∧ w' = w := by
  have hfb := run_frombits
  obtain ⟨A, A0, A1, A2, A3, A4⟩ : ∃ A : Nat → Nat, A 0 = 0 ∧ A 1 = x0 * 4294967296 ∧ A 2 = x0 * 4294967296 + x1 * 1099511627776 ∧ A 3 = x0 * 4294967296 + x1 * 1099511627776 + x2 * 281474976710656 ∧ A 4 = x0 * 4294967296 + x1 * 1099511627776 + x2 * 281474976710656 + x3 * 72057594037927936 :=
    ⟨fun j => match j with | 0 => 0 | 1 => x0 * 4294967296 | 2 => x0 * 4294967296 + x1 * 1099511627776 | 3 => x0 * 4294967296 + x1 * 1099511627776 + x2 * 281474976710656 | _ => x0 * 4294967296 + x1 * 1099511627776 + x2 * 281474976710656 + x3 * 72057594037927936, rfl, rfl, rfl, rfl, rfl⟩
  have HA := Lib.hid A4
  go_enter Tryd.func39, Tryd.ntmps39
  (repeat (first | go_values | go_skip | go_guarded | go_step | go_upon))
  go_loopw [3, 8] (fun a i wr => ∃ j : Nat, j ≤ 4 ∧ i = .int .i64 j ∧ a = .int .u64 ((A j : Nat) : Int) ∧ wr = w) (fun _ i _ => 4 - (intOf i).toNat)
  case atStart => exact ⟨0, by omega, rfl, by rw [A0]; rfl, rfl⟩
  case round =>
    obtain ⟨j, hj, rfl, rfl, rfl⟩ := hrel
    obtain rfl | rfl | rfl | rfl | rfl : j = 0 ∨ j = 1 ∨ j = 2 ∨ j = 3 ∨ j = 4 := by omega
    · have e1 : A 1 = A 0 + x0 * 4294967296 := by rw [A1, A0]; omega
      have hb : A 0 < 4294967296 := by rw [A0]; omega
      have hor := or_shift (A 0) x0 32 hb (by omega) (by omega)
      rw [show ((x0 * 2 ^ 32 : Nat) : Int) = (x0 : Int) * 4294967296 by omega, show ((A 0 + x0 * 2 ^ 32 : Nat) : Int) = ((A 0 : Nat) : Int) + (x0 : Int) * 4294967296 by omega] at hor
      have E1 := Lib.hid e1
      clear e1 A0 A1 A2 A3 A4
      generalize A 0 = y at *
      (repeat (first | go_values | go_skip | go_guarded | go_step | go_upon))
      go_roundw
      case rel => exact ⟨1, by omega, by go_num, by rw [E1.out]; exact congrArg (Value.int .u64) (by omega), trivial⟩
      case measure => simp [intOf]
    · have e1 : A 2 = A 1 + x1 * 1099511627776 := by rw [A2, A1]
      have hb : A 1 < 1099511627776 := by rw [A1]; omega
      have hor := or_shift (A 1) x1 40 hb (by omega) (by omega)
      rw [show ((x1 * 2 ^ 40 : Nat) : Int) = (x1 : Int) * 1099511627776 by omega, show ((A 1 + x1 * 2 ^ 40 : Nat) : Int) = ((A 1 : Nat) : Int) + (x1 : Int) * 1099511627776 by omega] at hor
      have E1 := Lib.hid e1
      clear e1 A0 A1 A2 A3 A4
      generalize A 1 = y at *
      (repeat (first | go_values | go_skip | go_guarded | go_step | go_upon))
      go_roundw
      case rel => exact ⟨2, by omega, by go_num, by rw [E1.out]; exact congrArg (Value.int .u64) (by omega), trivial⟩
      case measure => simp [intOf]
    · have e1 : A 3 = A 2 + x2 * 281474976710656 := by rw [A3, A2]
      have hb : A 2 < 281474976710656 := by rw [A2]; omega
      have hor := or_shift (A 2) x2 48 hb (by omega) (by omega)
      rw [show ((x2 * 2 ^ 48 : Nat) : Int) = (x2 : Int) * 281474976710656 by omega, show ((A 2 + x2 * 2 ^ 48 : Nat) : Int) = ((A 2 : Nat) : Int) + (x2 : Int) * 281474976710656 by omega] at hor
      have E1 := Lib.hid e1
      clear e1 A0 A1 A2 A3 A4
      generalize A 2 = y at *
      (repeat (first | go_values | go_skip | go_guarded | go_step | go_upon))
      go_roundw
      case rel => exact ⟨3, by omega, by go_num, by rw [E1.out]; exact congrArg (Value.int .u64) (by omega), trivial⟩
      case measure => simp [intOf]
    · have e1 : A 4 = A 3 + x3 * 72057594037927936 := by rw [A4, A3]
      have hb : A 3 < 72057594037927936 := by rw [A3]; omega
      have hor := or_shift (A 3) x3 56 hb (by omega) (by omega)
      rw [show ((x3 * 2 ^ 56 : Nat) : Int) = (x3 : Int) * 72057594037927936 by omega, show ((A 3 + x3 * 2 ^ 56 : Nat) : Int) = ((A 3 : Nat) : Int) + (x3 : Int) * 72057594037927936 by omega] at hor
      have E1 := Lib.hid e1
      clear e1 A0 A1 A2 A3 A4
      generalize A 3 = y at *
      (repeat (first | go_values | go_skip | go_guarded | go_step | go_upon))
      go_roundw
      case rel => exact ⟨4, by omega, by go_num, by rw [E1.out]; exact congrArg (Value.int .u64) (by omega), trivial⟩
      case measure => simp [intOf]
    · clear A0 A1 A2 A3 A4
      generalize A 4 = y at *
      (repeat (first | go_values | go_skip | go_guarded | go_step | go_upon))
      go_ret
      exact ⟨by rw [← HA.out]; rfl, rfl⟩

set_option maxRecDepth 100000 in
set_option maxHeartbeats 4000000 in
theorem decFloat_5 (b o c : Nat) (x0 x1 x2 x3 x4 : Nat) (w : World) (h0 : x0 < 256) (h1 : x1 < 256) (h2 : x2 < 256) (h3 : x3 < 256) (h4 : x4 < 256) (c0 : w.cell? ⟨b, o, none⟩ = some (.int .u8 (x0 : Int))) (c1 : w.cell? ⟨b, o + 1, none⟩ = some (.int .u8 (x1 : Int))) (c2 : w.cell? ⟨b, o + 2, none⟩ = some (.int .u8 (x2 : Int))) (c3 : w.cell? ⟨b, o + 3, none⟩ = some (.int .u8 (x3 : Int))) (c4 : w.cell? ⟨b, o + 4, none⟩ = some (.int .u8 (x4 : Int))) :
    Calls Tryd.prog 39 #[.slice (some ⟨b, o, none⟩) 5 c] w fun e w' => e = .returned (.float .f64 (x0 * 16777216 + x1 * 4294967296 + x2 * 1099511627776 + x3 * 281474976710656 + x4 * 72057594037927936)) ∧ w' = w := by
  have hfb := run_frombits
  obtain ⟨A, A0, A1, A2, A3, A4, A5⟩ : ∃ A : Nat → Nat, A 0 = 0 ∧ A 1 = x0 * 16777216 ∧ A 2 = x0 * 16777216 + x1 * 4294967296 ∧ A 3 = x0 * 16777216 + x1 * 4294967296 + x2 * 1099511627776 ∧ A 4 = x0 * 16777216 + x1 * 4294967296 + x2 * 1099511627776 + x3 * 281474976710656 ∧ A 5 = x0 * 16777216 + x1 * 4294967296 + x2 * 1099511627776 + x3 * 281474976710656 + x4 * 72057594037927936 :=
    ⟨fun j => match j with | 0 => 0 | 1 => x0 * 16777216 | 2 => x0 * 16777216 + x1 * 4294967296 | 3 => x0 * 16777216 + x1 * 4294967296 + x2 * 1099511627776 | 4 => x0 * 16777216 + x1 * 4294967296 + x2 * 1099511627776 + x3 * 281474976710656 | _ => x0 * 16777216 + x1 * 4294967296 + x2 * 1099511627776 + x3 * 281474976710656 + x4 * 72057594037927936, rfl, rfl, rfl, rfl, rfl, rfl⟩
  have HA := Lib.hid A5
  go_enter Tryd.func39, Tryd.ntmps39
  (repeat (first | go_values | go_skip | go_guarded | go_step | go_upon))
  go_loopw [3, 8] (fun a i wr => ∃ j : Nat, j ≤ 5 ∧ i = .int .i64 j ∧ a = .int .u64 ((A j : Nat) : Int) ∧ wr = w) (fun _ i _ => 5 - (intOf i).toNat)
  case atStart => exact ⟨0, by omega, rfl, by rw [A0]; rfl, rfl⟩
  case round =>
    obtain ⟨j, hj, rfl, rfl, rfl⟩ := hrel
    obtain rfl | rfl | rfl | rfl | rfl | rfl : j = 0 ∨ j = 1 ∨ j = 2 ∨ j = 3 ∨ j = 4 ∨ j = 5 := by omega
    · have e1 : A 1 = A 0 + x0 * 16777216 := by rw [A1, A0]; omega
      have hb : A 0 < 16777216 := by rw [A0]; omega
      have hor := or_shift (A 0) x0 24 hb (by omega) (by omega)
      rw [show ((x0 * 2 ^ 24 : Nat) : Int) = (x0 : Int) * 16777216 by omega, show ((A 0 + x0 * 2 ^ 24 : Nat) : Int) = ((A 0 : Nat) : Int) + (x0 : Int) * 16777216 by omega] at hor
      have E1 := Lib.hid e1
      clear e1 A0 A1 A2 A3 A4 A5
      generalize A 0 = y at *
      (repeat (first | go_values | go_skip | go_guarded | go_step | go_upon))
      go_roundw
      case rel => exact ⟨1, by omega, by go_num, by rw [E1.out]; exact congrArg (Value.int .u64) (by omega), trivial⟩
      case measure => simp [intOf]
    · have e1 : A 2 = A 1 + x1 * 4294967296 := by rw [A2, A1]
      have hb : A 1 < 4294967296 := by rw [A1]; omega
      have hor := or_shift (A 1) x1 32 hb (by omega) (by omega)
      rw [show ((x1 * 2 ^ 32 : Nat) : Int) = (x1 : Int) * 4294967296 by omega, show ((A 1 + x1 * 2 ^ 32 : Nat) : Int) = ((A 1 : Nat) : Int) + (x1 : Int) * 4294967296 by omega] at hor
      have E1 := Lib.hid e1
      clear e1 A0 A1 A2 A3 A4 A5
      generalize A 1 = y at *
      (repeat (first | go_values | go_skip | go_guarded | go_step | go_upon))
      go_roundw
      case rel => exact ⟨2, by omega, by go_num, by rw [E1.out]; exact congrArg (Value.int .u64) (by omega), trivial⟩
      case measure => simp [intOf]
    · have e1 : A 3 = A 2 + x2 * 1099511627776 := by rw [A3, A2]
      have hb : A 2 < 1099511627776 := by rw [A2]; omega
      have hor := or_shift (A 2) x2 40 hb (by omega) (by omega)
      rw [show ((x2 * 2 ^ 40 : Nat) : Int) = (x2 : Int) * 1099511627776 by omega, show ((A 2 + x2 * 2 ^ 40 : Nat) : Int) = ((A 2 : Nat) : Int) + (x2 : Int) * 1099511627776 by omega] at hor
      have E1 := Lib.hid e1
      clear e1 A0 A1 A2 A3 A4 A5
      generalize A 2 = y at *
      (repeat (first | go_values | go_skip | go_guarded | go_step | go_upon))
      go_roundw
      case rel => exact ⟨3, by omega, by go_num, by rw [E1.out]; exact congrArg (Value.int .u64) (by omega), trivial⟩
      case measure => simp [intOf]
    · have e1 : A 4 = A 3 + x3 * 281474976710656 := by rw [A4, A3]
      have hb : A 3 < 281474976710656 := by rw [A3]; omega
      have hor := or_shift (A 3) x3 48 hb (by omega) (by omega)
      rw [show ((x3 * 2 ^ 48 : Nat) : Int) = (x3 : Int) * 281474976710656 by omega, show ((A 3 + x3 * 2 ^ 48 : Nat) : Int) = ((A 3 : Nat) : Int) + (x3 : Int) * 281474976710656 by omega] at hor
      have E1 := Lib.hid e1
      clear e1 A0 A1 A2 A3 A4 A5
      generalize A 3 = y at *
      (repeat (first | go_values | go_skip | go_guarded | go_step | go_upon))
      go_roundw
      case rel => exact ⟨4, by omega, by go_num, by rw [E1.out]; exact congrArg (Value.int .u64) (by omega), trivial⟩
      case measure => simp [intOf]
    · have e1 : A 5 = A 4 + x4 * 72057594037927936 := by rw [A5, A4]
      have hb : A 4 < 72057594037927936 := by rw [A4]; omega
      have hor := or_shift (A 4) x4 56 hb (by omega) (by omega)
      rw [show ((x4 * 2 ^ 56 : Nat) : Int) = (x4 : Int) * 72057594037927936 by omega, show ((A 4 + x4 * 2 ^ 56 : Nat) : Int) = ((A 4 : Nat) : Int) + (x4 : Int) * 72057594037927936 by omega] at hor
      have E1 := Lib.hid e1
      clear e1 A0 A1 A2 A3 A4 A5
      generalize A 4 = y at *
      (repeat (first | go_values | go_skip | go_guarded | go_step | go_upon))
      go_roundw
      case rel => exact ⟨5, by omega, by go_num, by rw [E1.out]; exact congrArg (Value.int .u64) (by omega), trivial⟩
      case measure => simp [intOf]
    · clear A0 A1 A2 A3 A4 A5
      generalize A 5 = y at *
      (repeat (first | go_values | go_skip | go_guarded | go_step | go_upon))
      go_ret
      exact ⟨by rw [← HA.out]; rfl, rfl⟩

set_option maxRecDepth 100000 in
set_option maxHeartbeats 4000000 in
theorem decFloat_6 (b o c : Nat) (x0 x1 x2 x3 x4 x5 : Nat) (w : World) (h0 : x0 < 256) (h1 : x1 < 256) (h2 : x2 < 256) (h3 : x3 < 256) (h4 : x4 < 256) (h5 : x5 < 256) (c0 : w.cell? ⟨b, o, none⟩ = some (.int .u8 (x0 : Int))) (c1 : w.cell? ⟨b, o + 1, none⟩ = some (.int .u8 (x1 : Int))) (c2 : w.cell? ⟨b, o + 2, none⟩ = some (.int .u8 (x2 : Int))) (c3 : w.cell? ⟨b, o + 3, none⟩ = some (.int .u8 (x3 : Int))) (c4 : w.cell? ⟨b, o + 4, none⟩ = some (.int .u8 (x4 : Int))) (c5 : w.cell? ⟨b, o + 5, none⟩ = some (.int .u8 (x5 : Int))) :
    Calls Tryd.prog 39 #[.slice (some ⟨b, o, none⟩) 6 c] w fun e w' => e = .returned (.float .f64 (x0 * 65536 + x1 * 16777216 + x2 * 4294967296 + x3 * 1099511627776 + x4 * 281474976710656 + x5 * 72057594037927936)) ∧ w' = w := by
  have hfb := run_frombits
  obtain ⟨A, A0, A1, A2, A3, A4, A5, A6⟩ : ∃ A : Nat → Nat, A 0 = 0 ∧ A 1 = x0 * 65536 ∧ A 2 = x0 * 65536 + x1 * 16777216 ∧ A 3 = x0 * 65536 + x1 * 16777216 + x2 * 4294967296 ∧ A 4 = x0 * 65536 + x1 * 16777216 + x2 * 4294967296 + x3 * 1099511627776 ∧ A 5 = x0 * 65536 + x1 * 16777216 + x2 * 4294967296 + x3 * 1099511627776 + x4 * 281474976710656 ∧ A 6 = x0 * 65536 + x1 * 16777216 + x2 * 4294967296 + x3 * 1099511627776 + x4 * 281474976710656 + x5 * 72057594037927936 :=
    ⟨fun j => match j with | 0 => 0 | 1 => x0 * 65536 | 2 => x0 * 65536 + x1 * 16777216 | 3 => x0 * 65536 + x1 * 16777216 + x2 * 4294967296 | 4 => x0 * 65536 + x1 * 16777216 + x2 * 4294967296 + x3 * 1099511627776 | 5 => x0 * 65536 + x1 * 16777216 + x2 * 4294967296 + x3 * 1099511627776 + x4 * 281474976710656 | _ => x0 * 65536 + x1 * 16777216 + x2 * 4294967296 + x3 * 1099511627776 + x4 * 281474976710656 + x5 * 72057594037927936, rfl, rfl, rfl, rfl, rfl, rfl, rfl⟩
  have HA := Lib.hid A6
  go_enter Tryd.func39, Tryd.ntmps39
  (repeat (first | go_values | go_skip | go_guarded | go_step | go_upon))
  go_loopw [3, 8] (fun a i wr => ∃ j : Nat, j ≤ 6 ∧ i = .int .i64 j ∧ a = .int .u64 ((A j : Nat) : Int) ∧ wr = w) (fun _ i _ => 6 - (intOf i).toNat)
  case atStart => exact ⟨0, by omega, rfl, by rw [A0]; rfl, rfl⟩
  case round =>
    obtain ⟨j, hj, rfl, rfl, rfl⟩ := hrel
    obtain rfl | rfl | rfl | rfl | rfl | rfl | rfl : j = 0 ∨ j = 1 ∨ j = 2 ∨ j = 3 ∨ j = 4 ∨ j = 5 ∨ j = 6 := by omega
    · have e1 : A 1 = A 0 + x0 * 65536 := by rw [A1, A0]; omega
      have hb : A 0 < 65536 := by rw [A0]; omega
      have hor := or_shift (A 0) x0 16 hb (by omega) (by omega)
      rw [show ((x0 * 2 ^ 16 : Nat) : Int) = (x0 : Int) * 65536 by omega, show ((A 0 + x0 * 2 ^ 16 : Nat) : Int) = ((A 0 : Nat) : Int) + (x0 : Int) * 65536 by omega] at hor
      have E1 := Lib.hid e1
      clear e1 A0 A1 A2 A3 A4 A5 A6
      generalize A 0 = y at *
      (repeat (first | go_values | go_skip | go_guarded | go_step | go_upon))
      go_roundw
      case rel => exact ⟨1, by omega, by go_num, by rw [E1.out]; exact congrArg (Value.int .u64) (by omega), trivial⟩
      case measure => simp [intOf]
    · have e1 : A 2 = A 1 + x1 * 16777216 := by rw [A2, A1]
      have hb : A 1 < 16777216 := by rw [A1]; omega
      have hor := or_shift (A 1) x1 24 hb (by omega) (by omega)
      rw [show ((x1 * 2 ^ 24 : Nat) : Int) = (x1 : Int) * 16777216 by omega, show ((A 1 + x1 * 2 ^ 24 : Nat) : Int) = ((A 1 : Nat) : Int) + (x1 : Int) * 16777216 by omega] at hor
      have E1 := Lib.hid e1
      clear e1 A0 A1 A2 A3 A4 A5 A6
      generalize A 1 = y at *
      (repeat (first | go_values | go_skip | go_guarded | go_step | go_upon))
      go_roundw
      case rel => exact ⟨2, by omega, by go_num, by rw [E1.out]; exact congrArg (Value.int .u64) (by omega), trivial⟩
      case measure => simp [intOf]
    · have e1 : A 3 = A 2 + x2 * 4294967296 := by rw [A3, A2]
      have hb : A 2 < 4294967296 := by rw [A2]; omega
      have hor := or_shift (A 2) x2 32 hb (by omega) (by omega)
      rw [show ((x2 * 2 ^ 32 : Nat) : Int) = (x2 : Int) * 4294967296 by omega, show ((A 2 + x2 * 2 ^ 32 : Nat) : Int) = ((A 2 : Nat) : Int) + (x2 : Int) * 4294967296 by omega] at hor
      have E1 := Lib.hid e1
      clear e1 A0 A1 A2 A3 A4 A5 A6
      generalize A 2 = y at *
      (repeat (first | go_values | go_skip | go_guarded | go_step | go_upon))
      go_roundw
      case rel => exact ⟨3, by omega, by go_num, by rw [E1.out]; exact congrArg (Value.int .u64) (by omega), trivial⟩
      case measure => simp [intOf]
    · have e1 : A 4 = A 3 + x3 * 1099511627776 := by rw [A4, A3]
      have hb : A 3 < 1099511627776 := by rw [A3]; omega
      have hor := or_shift (A 3) x3 40 hb (by omega) (by omega)
      rw [show ((x3 * 2 ^ 40 : Nat) : Int) = (x3 : Int) * 1099511627776 by omega, show ((A 3 + x3 * 2 ^ 40 : Nat) : Int) = ((A 3 : Nat) : Int) + (x3 : Int) * 1099511627776 by omega] at hor
      have E1 := Lib.hid e1
      clear e1 A0 A1 A2 A3 A4 A5 A6
      generalize A 3 = y at *
      (repeat (first | go_values | go_skip | go_guarded | go_step | go_upon))
      go_roundw
      case rel => exact ⟨4, by omega, by go_num, by rw [E1.out]; exact congrArg (Value.int .u64) (by omega), trivial⟩
      case measure => simp [intOf]
    · have e1 : A 5 = A 4 + x4 * 281474976710656 := by rw [A5, A4]
      have hb : A 4 < 281474976710656 := by rw [A4]; omega
      have hor := or_shift (A 4) x4 48 hb (by omega) (by omega)
      rw [show ((x4 * 2 ^ 48 : Nat) : Int) = (x4 : Int) * 281474976710656 by omega, show ((A 4 + x4 * 2 ^ 48 : Nat) : Int) = ((A 4 : Nat) : Int) + (x4 : Int) * 281474976710656 by omega] at hor
      have E1 := Lib.hid e1
      clear e1 A0 A1 A2 A3 A4 A5 A6
      generalize A 4 = y at *
      (repeat (first | go_values | go_skip | go_guarded | go_step | go_upon))
      go_roundw
      case rel => exact ⟨5, by omega, by go_num, by rw [E1.out]; exact congrArg (Value.int .u64) (by omega), trivial⟩
      case measure => simp [intOf]
    · have e1 : A 6 = A 5 + x5 * 72057594037927936 := by rw [A6, A5]
      have hb : A 5 < 72057594037927936 := by rw [A5]; omega
      have hor := or_shift (A 5) x5 56 hb (by omega) (by omega)
      rw [show ((x5 * 2 ^ 56 : Nat) : Int) = (x5 : Int) * 72057594037927936 by omega, show ((A 5 + x5 * 2 ^ 56 : Nat) : Int) = ((A 5 : Nat) : Int) + (x5 : Int) * 72057594037927936 by omega] at hor
      have E1 := Lib.hid e1
      clear e1 A0 A1 A2 A3 A4 A5 A6
      generalize A 5 = y at *
      (repeat (first | go_values | go_skip | go_guarded | go_step | go_upon))
      go_roundw
      case rel => exact ⟨6, by omega, by go_num, by rw [E1.out]; exact congrArg (Value.int .u64) (by omega), trivial⟩
      case measure => simp [intOf]
    · clear A0 A1 A2 A3 A4 A5 A6
      generalize A 6 = y at *
      (repeat (first | go_values | go_skip | go_guarded | go_step | go_upon))
      go_ret
      exact ⟨by rw [← HA.out]; rfl, rfl⟩

set_option maxRecDepth 100000 in
set_option maxHeartbeats 4000000 in
theorem decFloat_7 (b o c : Nat) (x0 x1 x2 x3 x4 x5 x6 : Nat) (w : World) (h0 : x0 < 256) (h1 : x1 < 256) (h2 : x2 < 256) (h3 : x3 < 256) (h4 : x4 < 256) (h5 : x5 < 256) (h6 : x6 < 256) (c0 : w.cell? ⟨b, o, none⟩ = some (.int .u8 (x0 : Int))) (c1 : w.cell? ⟨b, o + 1, none⟩ = some (.int .u8 (x1 : Int))) (c2 : w.cell? ⟨b, o + 2, none⟩ = some (.int .u8 (x2 : Int))) (c3 : w.cell? ⟨b, o + 3, none⟩ = some (.int .u8 (x3 : Int))) (c4 : w.cell? ⟨b, o + 4, none⟩ = some (.int .u8 (x4 : Int))) (c5 : w.cell? ⟨b, o + 5, none⟩ = some (.int .u8 (x5 : Int))) (c6 : w.cell? ⟨b, o + 6, none⟩ = some (.int .u8 (x6 : Int))) :
    Calls Tryd.prog 39 #[.slice (some ⟨b, o, none⟩) 7 c] w fun e w' => e = .returned (.float .f64 (x0 * 256 + x1 * 65536 + x2 * 16777216 + x3 * 4294967296 + x4 * 1099511627776 + x5 * 281474976710656 + x6 * 72057594037927936)) ∧ w' = w := by
  have hfb := run_frombits
  obtain ⟨A, A0, A1, A2, A3, A4, A5, A6, A7⟩ : ∃ A : Nat → Nat, A 0 = 0 ∧ A 1 = x0 * 256 ∧ A 2 = x0 * 256 + x1 * 65536 ∧ A 3 = x0 * 256 + x1 * 65536 + x2 * 16777216 ∧ A 4 = x0 * 256 + x1 * 65536 + x2 * 16777216 + x3 * 4294967296 ∧ A 5 = x0 * 256 + x1 * 65536 + x2 * 16777216 + x3 * 4294967296 + x4 * 1099511627776 ∧ A 6 = x0 * 256 + x1 * 65536 + x2 * 16777216 + x3 * 4294967296 + x4 * 1099511627776 + x5 * 281474976710656 ∧ A 7 = x0 * 256 + x1 * 65536 + x2 * 16777216 + x3 * 4294967296 + x4 * 1099511627776 + x5 * 281474976710656 + x6 * 72057594037927936 :=
    ⟨fun j => match j with | 0 => 0 | 1 => x0 * 256 | 2 => x0 * 256 + x1 * 65536 | 3 => x0 * 256 + x1 * 65536 + x2 * 16777216 | 4 => x0 * 256 + x1 * 65536 + x2 * 16777216 + x3 * 4294967296 | 5 => x0 * 256 + x1 * 65536 + x2 * 16777216 + x3 * 4294967296 + x4 * 1099511627776 | 6 => x0 * 256 + x1 * 65536 + x2 * 16777216 + x3 * 4294967296 + x4 * 1099511627776 + x5 * 281474976710656 | _ => x0 * 256 + x1 * 65536 + x2 * 16777216 + x3 * 4294967296 + x4 * 1099511627776 + x5 * 281474976710656 + x6 * 72057594037927936, rfl, rfl, rfl, rfl, rfl, rfl, rfl, rfl⟩
  have HA := Lib.hid A7
  go_enter Tryd.func39, Tryd.ntmps39
  (repeat (first | go_values | go_skip | go_guarded | go_step | go_upon))
  go_loopw [3, 8] (fun a i wr => ∃ j : Nat, j ≤ 7 ∧ i = .int .i64 j ∧ a = .int .u64 ((A j : Nat) : Int) ∧ wr = w) (fun _ i _ => 7 - (intOf i).toNat)
  case atStart => exact ⟨0, by omega, rfl, by rw [A0]; rfl, rfl⟩
  case round =>
    obtain ⟨j, hj, rfl, rfl, rfl⟩ := hrel
    obtain rfl | rfl | rfl | rfl | rfl | rfl | rfl | rfl : j = 0 ∨ j = 1 ∨ j = 2 ∨ j = 3 ∨ j = 4 ∨ j = 5 ∨ j = 6 ∨ j = 7 := by omega
    · have e1 : A 1 = A 0 + x0 * 256 := by rw [A1, A0]; omega
      have hb : A 0 < 256 := by rw [A0]; omega
      have hor := or_shift (A 0) x0 8 hb (by omega) (by omega)
      rw [show ((x0 * 2 ^ 8 : Nat) : Int) = (x0 : Int) * 256 by omega, show ((A 0 + x0 * 2 ^ 8 : Nat) : Int) = ((A 0 : Nat) : Int) + (x0 : Int) * 256 by omega] at hor
      have E1 := Lib.hid e1
      clear e1 A0 A1 A2 A3 A4 A5 A6 A7
      generalize A 0 = y at *
      (repeat (first | go_values | go_skip | go_guarded | go_step | go_upon))
      go_roundw
      case rel => exact ⟨1, by omega, by go_num, by rw [E1.out]; exact congrArg (Value.int .u64) (by omega), trivial⟩
      case measure => simp [intOf]
    · have e1 : A 2 = A 1 + x1 * 65536 := by rw [A2, A1]
      have hb : A 1 < 65536 := by rw [A1]; omega
      have hor := or_shift (A 1) x1 16 hb (by omega) (by omega)
      rw [show ((x1 * 2 ^ 16 : Nat) : Int) = (x1 : Int) * 65536 by omega, show ((A 1 + x1 * 2 ^ 16 : Nat) : Int) = ((A 1 : Nat) : Int) + (x1 : Int) * 65536 by omega] at hor
      have E1 := Lib.hid e1
      clear e1 A0 A1 A2 A3 A4 A5 A6 A7
      generalize A 1 = y at *
      (repeat (first | go_values | go_skip | go_guarded | go_step | go_upon))
      go_roundw
      case rel => exact ⟨2, by omega, by go_num, by rw [E1.out]; exact congrArg (Value.int .u64) (by omega), trivial⟩
      case measure => simp [intOf]
    · have e1 : A 3 = A 2 + x2 * 16777216 := by rw [A3, A2]
      have hb : A 2 < 16777216 := by rw [A2]; omega
      have hor := or_shift (A 2) x2 24 hb (by omega) (by omega)
      rw [show ((x2 * 2 ^ 24 : Nat) : Int) = (x2 : Int) * 16777216 by omega, show ((A 2 + x2 * 2 ^ 24 : Nat) : Int) = ((A 2 : Nat) : Int) + (x2 : Int) * 16777216 by omega] at hor
      have E1 := Lib.hid e1
      clear e1 A0 A1 A2 A3 A4 A5 A6 A7
      generalize A 2 = y at *
      (repeat (first | go_values | go_skip | go_guarded | go_step | go_upon))
      go_roundw
      case rel => exact ⟨3, by omega, by go_num, by rw [E1.out]; exact congrArg (Value.int .u64) (by omega), trivial⟩
      case measure => simp [intOf]
    · have e1 : A 4 = A 3 + x3 * 4294967296 := by rw [A4, A3]
      have hb : A 3 < 4294967296 := by rw [A3]; omega
      have hor := or_shift (A 3) x3 32 hb (by omega) (by omega)
      rw [show ((x3 * 2 ^ 32 : Nat) : Int) = (x3 : Int) * 4294967296 by omega, show ((A 3 + x3 * 2 ^ 32 : Nat) : Int) = ((A 3 : Nat) : Int) + (x3 : Int) * 4294967296 by omega] at hor
      have E1 := Lib.hid e1
      clear e1 A0 A1 A2 A3 A4 A5 A6 A7
      generalize A 3 = y at *
      (repeat (first | go_values | go_skip | go_guarded | go_step | go_upon))
      go_roundw
      case rel => exact ⟨4, by omega, by go_num, by rw [E1.out]; exact congrArg (Value.int .u64) (by omega), trivial⟩
      case measure => simp [intOf]
    · have e1 : A 5 = A 4 + x4 * 1099511627776 := by rw [A5, A4]
      have hb : A 4 < 1099511627776 := by rw [A4]; omega
      have hor := or_shift (A 4) x4 40 hb (by omega) (by omega)
      rw [show ((x4 * 2 ^ 40 : Nat) : Int) = (x4 : Int) * 1099511627776 by omega, show ((A 4 + x4 * 2 ^ 40 : Nat) : Int) = ((A 4 : Nat) : Int) + (x4 : Int) * 1099511627776 by omega] at hor
      have E1 := Lib.hid e1
      clear e1 A0 A1 A2 A3 A4 A5 A6 A7
      generalize A 4 = y at *
      (repeat (first | go_values | go_skip | go_guarded | go_step | go_upon))
      go_roundw
      case rel => exact ⟨5, by omega, by go_num, by rw [E1.out]; exact congrArg (Value.int .u64) (by omega), trivial⟩
      case measure => simp [intOf]
    · have e1 : A 6 = A 5 + x5 * 281474976710656 := by rw [A6, A5]
      have hb : A 5 < 281474976710656 := by rw [A5]; omega
      have hor := or_shift (A 5) x5 48 hb (by omega) (by omega)
      rw [show ((x5 * 2 ^ 48 : Nat) : Int) = (x5 : Int) * 281474976710656 by omega, show ((A 5 + x5 * 2 ^ 48 : Nat) : Int) = ((A 5 : Nat) : Int) + (x5 : Int) * 281474976710656 by omega] at hor
      have E1 := Lib.hid e1
      clear e1 A0 A1 A2 A3 A4 A5 A6 A7
      generalize A 5 = y at *
      (repeat (first | go_values | go_skip | go_guarded | go_step | go_upon))
      go_roundw
      case rel => exact ⟨6, by omega, by go_num, by rw [E1.out]; exact congrArg (Value.int .u64) (by omega), trivial⟩
      case measure => simp [intOf]
    · have e1 : A 7 = A 6 + x6 * 72057594037927936 := by rw [A7, A6]
      have hb : A 6 < 72057594037927936 := by rw [A6]; omega
      have hor := or_shift (A 6) x6 56 hb (by omega) (by omega)
      rw [show ((x6 * 2 ^ 56 : Nat) : Int) = (x6 : Int) * 72057594037927936 by omega, show ((A 6 + x6 * 2 ^ 56 : Nat) : Int) = ((A 6 : Nat) : Int) + (x6 : Int) * 72057594037927936 by omega] at hor
      have E1 := Lib.hid e1
      clear e1 A0 A1 A2 A3 A4 A5 A6 A7
      generalize A 6 = y at *
      (repeat (first | go_values | go_skip | go_guarded | go_step | go_upon))
      go_roundw
      case rel => exact ⟨7, by omega, by go_num, by rw [E1.out]; exact congrArg (Value.int .u64) (by omega), trivial⟩
      case measure => simp [intOf]
    · clear A0 A1 A2 A3 A4 A5 A6 A7
      generalize A 7 = y at *
      (repeat (first | go_values | go_skip | go_guarded | go_step | go_upon))
      go_ret
      exact ⟨by rw [← HA.out]; rfl, rfl⟩

set_option maxRecDepth 100000 in
set_option maxHeartbeats 4000000 in
theorem decFloat_8 (b o c : Nat) (x0 x1 x2 x3 x4 x5 x6 x7 : Nat) (w : World) (h0 : x0 < 256) (h1 : x1 < 256) (h2 : x2 < 256) (h3 : x3 < 256) (h4 : x4 < 256) (h5 : x5 < 256) (h6 : x6 < 256) (h7 : x7 < 256) (c0 : w.cell? ⟨b, o, none⟩ = some (.int .u8 (x0 : Int))) (c1 : w.cell? ⟨b, o + 1, none⟩ = some (.int .u8 (x1 : Int))) (c2 : w.cell? ⟨b, o + 2, none⟩ = some (.int .u8 (x2 : Int))) (c3 : w.cell? ⟨b, o + 3, none⟩ = some (.int .u8 (x3 : Int))) (c4 : w.cell? ⟨b, o + 4, none⟩ = some (.int .u8 (x4 : Int))) (c5 : w.cell? ⟨b, o + 5, none⟩ = some (.int .u8 (x5 : Int))) (c6 : w.cell? ⟨b, o + 6, none⟩ = some (.int .u8 (x6 : Int))) (c7 : w.cell? ⟨b, o + 7, none⟩ = some (.int .u8 (x7 : Int))) :
    Calls Tryd.prog 39 #[.slice (some ⟨b, o, none⟩) 8 c] w fun e w' => e = .returned (.float .f64 (x0 * 1 + x1 * 256 + x2 * 65536 + x3 * 16777216 + x4 * 4294967296 + x5 * 1099511627776 + x6 * 281474976710656 + x7 * 72057594037927936)) ∧ w' = w := by
  have hfb := run_frombits
  obtain ⟨A, A0, A1, A2, A3, A4, A5, A6, A7, A8⟩ : ∃ A : Nat → Nat, A 0 = 0 ∧ A 1 = x0 * 1 ∧ A 2 = x0 * 1 + x1 * 256 ∧ A 3 = x0 * 1 + x1 * 256 + x2 * 65536 ∧ A 4 = x0 * 1 + x1 * 256 + x2 * 65536 + x3 * 16777216 ∧ A 5 = x0 * 1 + x1 * 256 + x2 * 65536 + x3 * 16777216 + x4 * 4294967296 ∧ A 6 = x0 * 1 + x1 * 256 + x2 * 65536 + x3 * 16777216 + x4 * 4294967296 + x5 * 1099511627776 ∧ A 7 = x0 * 1 + x1 * 256 + x2 * 65536 + x3 * 16777216 + x4 * 4294967296 + x5 * 1099511627776 + x6 * 281474976710656 ∧ A 8 = x0 * 1 + x1 * 256 + x2 * 65536 + x3 * 16777216 + x4 * 4294967296 + x5 * 1099511627776 + x6 * 281474976710656 + x7 * 72057594037927936 :=
    ⟨fun j => match j with | 0 => 0 | 1 => x0 * 1 | 2 => x0 * 1 + x1 * 256 | 3 => x0 * 1 + x1 * 256 + x2 * 65536 | 4 => x0 * 1 + x1 * 256 + x2 * 65536 + x3 * 16777216 | 5 => x0 * 1 + x1 * 256 + x2 * 65536 + x3 * 16777216 + x4 * 4294967296 | 6 => x0 * 1 + x1 * 256 + x2 * 65536 + x3 * 16777216 + x4 * 4294967296 + x5 * 1099511627776 | 7 => x0 * 1 + x1 * 256 + x2 * 65536 + x3 * 16777216 + x4 * 4294967296 + x5 * 1099511627776 + x6 * 281474976710656 | _ => x0 * 1 + x1 * 256 + x2 * 65536 + x3 * 16777216 + x4 * 4294967296 + x5 * 1099511627776 + x6 * 281474976710656 + x7 * 72057594037927936, rfl, rfl, rfl, rfl, rfl, rfl, rfl, rfl, rfl⟩
  have HA := Lib.hid A8
  go_enter Tryd.func39, Tryd.ntmps39
  (repeat (first | go_values | go_skip | go_guarded | go_step | go_upon))
  go_loopw [3, 8] (fun a i wr => ∃ j : Nat, j ≤ 8 ∧ i = .int .i64 j ∧ a = .int .u64 ((A j : Nat) : Int) ∧ wr = w) (fun _ i _ => 8 - (intOf i).toNat)
  case atStart => exact ⟨0, by omega, rfl, by rw [A0]; rfl, rfl⟩
  case round =>
    obtain ⟨j, hj, rfl, rfl, rfl⟩ := hrel
    obtain rfl | rfl | rfl | rfl | rfl | rfl | rfl | rfl | rfl : j = 0 ∨ j = 1 ∨ j = 2 ∨ j = 3 ∨ j = 4 ∨ j = 5 ∨ j = 6 ∨ j = 7 ∨ j = 8 := by omega
    · have e1 : A 1 = A 0 + x0 * 1 := by rw [A1, A0]; omega
      have hb : A 0 < 1 := by rw [A0]; omega
      have hor := or_shift (A 0) x0 0 hb (by omega) (by omega)
      rw [show ((x0 * 2 ^ 0 : Nat) : Int) = (x0 : Int) by omega, show ((A 0 + x0 * 2 ^ 0 : Nat) : Int) = ((A 0 : Nat) : Int) + (x0 : Int) by omega] at hor
      have E1 := Lib.hid e1
      clear e1 A0 A1 A2 A3 A4 A5 A6 A7 A8
      generalize A 0 = y at *
      (repeat (first | go_values | go_skip | go_guarded | go_step | go_upon))
      go_roundw
      case rel => exact ⟨1, by omega, by go_num, by rw [E1.out]; exact congrArg (Value.int .u64) (by omega), trivial⟩
      case measure => simp [intOf]
    · have e1 : A 2 = A 1 + x1 * 256 := by rw [A2, A1]
      have hb : A 1 < 256 := by rw [A1]; omega
      have hor := or_shift (A 1) x1 8 hb (by omega) (by omega)
      rw [show ((x1 * 2 ^ 8 : Nat) : Int) = (x1 : Int) * 256 by omega, show ((A 1 + x1 * 2 ^ 8 : Nat) : Int) = ((A 1 : Nat) : Int) + (x1 : Int) * 256 by omega] at hor
      have E1 := Lib.hid e1
      clear e1 A0 A1 A2 A3 A4 A5 A6 A7 A8
      generalize A 1 = y at *
      (repeat (first | go_values | go_skip | go_guarded | go_step | go_upon))
      go_roundw
      case rel => exact ⟨2, by omega, by go_num, by rw [E1.out]; exact congrArg (Value.int .u64) (by omega), trivial⟩
      case measure => simp [intOf]
    · have e1 : A 3 = A 2 + x2 * 65536 := by rw [A3, A2]
      have hb : A 2 < 65536 := by rw [A2]; omega
      have hor := or_shift (A 2) x2 16 hb (by omega) (by omega)
      rw [show ((x2 * 2 ^ 16 : Nat) : Int) = (x2 : Int) * 65536 by omega, show ((A 2 + x2 * 2 ^ 16 : Nat) : Int) = ((A 2 : Nat) : Int) + (x2 : Int) * 65536 by omega] at hor
      have E1 := Lib.hid e1
      clear e1 A0 A1 A2 A3 A4 A5 A6 A7 A8
      generalize A 2 = y at *
      (repeat (first | go_values | go_skip | go_guarded | go_step | go_upon))
      go_roundw
      case rel => exact ⟨3, by omega, by go_num, by rw [E1.out]; exact congrArg (Value.int .u64) (by omega), trivial⟩
      case measure => simp [intOf]
    · have e1 : A 4 = A 3 + x3 * 16777216 := by rw [A4, A3]
      have hb : A 3 < 16777216 := by rw [A3]; omega
      have hor := or_shift (A 3) x3 24 hb (by omega) (by omega)
      rw [show ((x3 * 2 ^ 24 : Nat) : Int) = (x3 : Int) * 16777216 by omega, show ((A 3 + x3 * 2 ^ 24 : Nat) : Int) = ((A 3 : Nat) : Int) + (x3 : Int) * 16777216 by omega] at hor
      have E1 := Lib.hid e1
      clear e1 A0 A1 A2 A3 A4 A5 A6 A7 A8
      generalize A 3 = y at *
      (repeat (first | go_values | go_skip | go_guarded | go_step | go_upon))
      go_roundw
      case rel => exact ⟨4, by omega, by go_num, by rw [E1.out]; exact congrArg (Value.int .u64) (by omega), trivial⟩
      case measure => simp [intOf]
    · have e1 : A 5 = A 4 + x4 * 4294967296 := by rw [A5, A4]
      have hb : A 4 < 4294967296 := by rw [A4]; omega
      have hor := or_shift (A 4) x4 32 hb (by omega) (by omega)
      rw [show ((x4 * 2 ^ 32 : Nat) : Int) = (x4 : Int) * 4294967296 by omega, show ((A 4 + x4 * 2 ^ 32 : Nat) : Int) = ((A 4 : Nat) : Int) + (x4 : Int) * 4294967296 by omega] at hor
      have E1 := Lib.hid e1
      clear e1 A0 A1 A2 A3 A4 A5 A6 A7 A8
      generalize A 4 = y at *
      (repeat (first | go_values | go_skip | go_guarded | go_step | go_upon))
      go_roundw
      case rel => exact ⟨5, by omega, by go_num, by rw [E1.out]; exact congrArg (Value.int .u64) (by omega), trivial⟩
      case measure => simp [intOf]
    · have e1 : A 6 = A 5 + x5 * 1099511627776 := by rw [A6, A5]
      have hb : A 5 < 1099511627776 := by rw [A5]; omega
      have hor := or_shift (A 5) x5 40 hb (by omega) (by omega)
      rw [show ((x5 * 2 ^ 40 : Nat) : Int) = (x5 : Int) * 1099511627776 by omega, show ((A 5 + x5 * 2 ^ 40 : Nat) : Int) = ((A 5 : Nat) : Int) + (x5 : Int) * 1099511627776 by omega] at hor
      have E1 := Lib.hid e1
      clear e1 A0 A1 A2 A3 A4 A5 A6 A7 A8
      generalize A 5 = y at *
      (repeat (first | go_values | go_skip | go_guarded | go_step | go_upon))
      go_roundw
      case rel => exact ⟨6, by omega, by go_num, by rw [E1.out]; exact congrArg (Value.int .u64) (by omega), trivial⟩
      case measure => simp [intOf]
    · have e1 : A 7 = A 6 + x6 * 281474976710656 := by rw [A7, A6]
      have hb : A 6 < 281474976710656 := by rw [A6]; omega
      have hor := or_shift (A 6) x6 48 hb (by omega) (by omega)
      rw [show ((x6 * 2 ^ 48 : Nat) : Int) = (x6 : Int) * 281474976710656 by omega, show ((A 6 + x6 * 2 ^ 48 : Nat) : Int) = ((A 6 : Nat) : Int) + (x6 : Int) * 281474976710656 by omega] at hor
      have E1 := Lib.hid e1
      clear e1 A0 A1 A2 A3 A4 A5 A6 A7 A8
      generalize A 6 = y at *
      (repeat (first | go_values | go_skip | go_guarded | go_step | go_upon))
      go_roundw
      case rel => exact ⟨7, by omega, by go_num, by rw [E1.out]; exact congrArg (Value.int .u64) (by omega), trivial⟩
      case measure => simp [intOf]
    · have e1 : A 8 = A 7 + x7 * 72057594037927936 := by rw [A8, A7]
      have hb : A 7 < 72057594037927936 := by rw [A7]; omega
      have hor := or_shift (A 7) x7 56 hb (by omega) (by omega)
      rw [show ((x7 * 2 ^ 56 : Nat) : Int) = (x7 : Int) * 72057594037927936 by omega, show ((A 7 + x7 * 2 ^ 56 : Nat) : Int) = ((A 7 : Nat) : Int) + (x7 : Int) * 72057594037927936 by omega] at hor
      have E1 := Lib.hid e1
      clear e1 A0 A1 A2 A3 A4 A5 A6 A7 A8
      generalize A 7 = y at *
      (repeat (first | go_values | go_skip | go_guarded | go_step | go_upon))
      go_roundw
      case rel => exact ⟨8, by omega, by go_num, by rw [E1.out]; exact congrArg (Value.int .u64) (by omega), trivial⟩
      case measure => simp [intOf]
    · clear A0 A1 A2 A3 A4 A5 A6 A7 A8
      generalize A 8 = y at *
      (repeat (first | go_values | go_skip | go_guarded | go_step | go_upon))
      go_ret
      exact ⟨by rw [← HA.out]; rfl, rfl⟩

end Go.Proofs.YtaoonpncnahhgaaDoor
