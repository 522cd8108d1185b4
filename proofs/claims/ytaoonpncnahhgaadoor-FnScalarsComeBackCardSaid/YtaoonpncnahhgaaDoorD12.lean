/-
  decodeFloat at what encFloat made.
-/
import Derived.Test.YtaoonpncnahhgaaDoorD10
namespace Go.Proofs.YtaoonpncnahhgaaDoor
open Go.RowKit

theorem revb_succ (k u : Nat) : revb (k + 1) u = revb k u * 256 + u / 256 ^ k % 256 := rfl

theorem split_aux (q0 q1 q2 q3 q4 q5 q6 q7 q8 b0 b1 b2 b3 b4 b5 b6 b7 : Nat) (s0 : q0 = q1 * 256 + b0) (s1 : q1 = q2 * 256 + b1) (s2 : q2 = q3 * 256 + b2) (s3 : q3 = q4 * 256 + b3) (s4 : q4 = q5 * 256 + b4) (s5 : q5 = q6 * 256 + b5) (s6 : q6 = q7 * 256 + b6) (s7 : q7 = q8 * 256 + b7) (s8 : q8 = 0) :
    q0 = b0 + b1 * 256 + b2 * 65536 + b3 * 16777216 + b4 * 4294967296 + b5 * 1099511627776 + b6 * 281474976710656 + b7 * 72057594037927936 := by omega
theorem revb_aux (r1 r2 r3 r4 r5 r6 r7 r8 b0 b1 b2 b3 b4 b5 b6 b7 : Nat) (e1 : r1 = 0 * 256 + b0) (e2 : r2 = r1 * 256 + b1) (e3 : r3 = r2 * 256 + b2) (e4 : r4 = r3 * 256 + b3) (e5 : r5 = r4 * 256 + b4) (e6 : r6 = r5 * 256 + b5) (e7 : r7 = r6 * 256 + b6) (e8 : r8 = r7 * 256 + b7) :
    r8 = b7 + b6 * 256 + b5 * 65536 + b4 * 16777216 + b3 * 4294967296 + b2 * 1099511627776 + b1 * 281474976710656 + b0 * 72057594037927936 := by omega
theorem split_step (u k : Nat) : u / 256 ^ k = u / 256 ^ (k + 1) * 256 + u / 256 ^ k % 256 := by
  rw [show u / 256 ^ (k + 1) = u / 256 ^ k / 256 by rw [Nat.pow_succ, Nat.div_div_eq_div_mul]]
  omega

theorem revb_split (u : Nat) (hu : u < 18446744073709551616) : ∃ b0 b1 b2 b3 b4 b5 b6 b7 : Nat, b0 < 256 ∧ b1 < 256 ∧ b2 < 256 ∧ b3 < 256 ∧ b4 < 256 ∧ b5 < 256 ∧ b6 < 256 ∧ b7 < 256 ∧
    u = b0 + b1 * 256 + b2 * 65536 + b3 * 16777216 + b4 * 4294967296 + b5 * 1099511627776 + b6 * 281474976710656 + b7 * 72057594037927936 ∧
    revb 8 u = b7 + b6 * 256 + b5 * 65536 + b4 * 16777216 + b3 * 4294967296 + b2 * 1099511627776 + b1 * 281474976710656 + b0 * 72057594037927936 := by
  have m : ∀ k : Nat, u / 256 ^ k % 256 < 256 := fun k => Nat.mod_lt _ (by omega)
  have h8 : u < 256 ^ 8 := by rw [show 256 ^ 8 = 18446744073709551616 from rfl]; exact hu
  have h0 : u / 256 ^ 0 = u := by rw [Nat.pow_zero, Nat.div_one]
  have A := split_aux _ _ _ _ _ _ _ _ _ _ _ _ _ _ _ _ _ (split_step u 0) (split_step u 1) (split_step u 2) (split_step u 3) (split_step u 4) (split_step u 5) (split_step u 6) (split_step u 7) (Nat.div_eq_of_lt h8)
  exact ⟨_, _, _, _, _, _, _, _, m 0, m 1, m 2, m 3, m 4, m 5, m 6, m 7, h0.symm.trans A, revb_aux _ _ _ _ _ _ _ _ _ _ _ _ _ _ _ _ (revb_succ 0 u) (revb_succ 1 u) (revb_succ 2 u) (revb_succ 3 u) (revb_succ 4 u) (revb_succ 5 u) (revb_succ 6 u) (revb_succ 7 u)⟩

set_option maxRecDepth 100000 in
set_option maxHeartbeats 2000000 in
theorem decF_1 (u : Nat) (hu : u < 18446744073709551616) (hN : revb 8 u < 256) : DecF 1 (be 1 ((revb 8 u : Nat) : Int)) u := by
  intro w a c hr
  obtain ⟨b0, b1, b2, b3, b4, b5, b6, b7, h0, h1, h2, h3, h4, h5, h6, h7, eu, eN⟩ := revb_split u hu
  obtain ⟨b, o, rfl, -, hc⟩ : ∃ b o, a = some ⟨b, o, none⟩ ∧ b < w.heap.size ∧ ∀ (i : Nat) (x : UInt8), (be 1 ((revb 8 u : Nat) : Int))[i]? = some x → w.cell? ⟨b, o + i, none⟩ = some (.int .u8 (x.toNat : Int)) := by
    rcases hr.2 with h | h
    · have := be_length 1 ((revb 8 u : Nat) : Int); rw [h] at this; cases this
    · exact h
  generalize revb 8 u = N at *
  have z0 : b0 = 0 := by omega
  have z1 : b1 = 0 := by omega
  have z2 : b2 = 0 := by omega
  have z3 : b3 = 0 := by omega
  have z4 : b4 = 0 := by omega
  have z5 : b5 = 0 := by omega
  have z6 : b6 = 0 := by omega
  have m0 : ((N : Nat) : Int) = (b7 : Int) * 1 := by omega
  have d0 : w.cell? ⟨b, o, none⟩ = some (.int .u8 ((b7 : Nat) : Int)) := by
    have := hc 0 _ rfl
    rw [u8z] at this
    rw [m0] at this
    rw [show o + 0 = o from rfl] at this
    exact this.trans (congrArg (fun z => some (Value.int .u8 z)) (by omega))
  have := decFloat_1 b o c b7 w h7 d0
  refine this.mono fun e w' ⟨g1, g2⟩ => ⟨?_, g2⟩
  rw [g1]
  exact congrArg (fun z => Ending.returned (.float .f64 z)) (by omega)

set_option maxRecDepth 100000 in
set_option maxHeartbeats 2000000 in
theorem decF_2 (u : Nat) (hu : u < 18446744073709551616) (hN : revb 8 u < 65536) : DecF 2 (be 2 ((revb 8 u : Nat) : Int)) u := by
  intro w a c hr
  obtain ⟨b0, b1, b2, b3, b4, b5, b6, b7, h0, h1, h2, h3, h4, h5, h6, h7, eu, eN⟩ := revb_split u hu
  obtain ⟨b, o, rfl, -, hc⟩ : ∃ b o, a = some ⟨b, o, none⟩ ∧ b < w.heap.size ∧ ∀ (i : Nat) (x : UInt8), (be 2 ((revb 8 u : Nat) : Int))[i]? = some x → w.cell? ⟨b, o + i, none⟩ = some (.int .u8 (x.toNat : Int)) := by
    rcases hr.2 with h | h
    · have := be_length 2 ((revb 8 u : Nat) : Int); rw [h] at this; cases this
    · exact h
  generalize revb 8 u = N at *
  have z0 : b0 = 0 := by omega
  have z1 : b1 = 0 := by omega
  have z2 : b2 = 0 := by omega
  have z3 : b3 = 0 := by omega
  have z4 : b4 = 0 := by omega
  have z5 : b5 = 0 := by omega
  have m0 : ((N : Nat) : Int) = (b7 : Int) * 1 + (b6 : Int) * 256 := by omega
  have m1 : ((N : Nat) : Int) / 256 = (b6 : Int) * 1 := by rw [m0]; omega
  have d0 : w.cell? ⟨b, o, none⟩ = some (.int .u8 ((b6 : Nat) : Int)) := by
    have := hc 0 _ rfl
    rw [u8z] at this
    rw [m1] at this
    rw [show o + 0 = o from rfl] at this
    exact this.trans (congrArg (fun z => some (Value.int .u8 z)) (by omega))
  have d1 : w.cell? ⟨b, o + 1, none⟩ = some (.int .u8 ((b7 : Nat) : Int)) := by
    have := hc 1 _ rfl
    rw [u8z] at this
    rw [m0] at this
    rw [show o + 1 = o + 1 from rfl] at this
    exact this.trans (congrArg (fun z => some (Value.int .u8 z)) (by omega))
  have := decFloat_2 b o c b6 b7 w h6 h7 d0 d1
  refine this.mono fun e w' ⟨g1, g2⟩ => ⟨?_, g2⟩
  rw [g1]
  exact congrArg (fun z => Ending.returned (.float .f64 z)) (by omega)

set_option maxRecDepth 100000 in
set_option maxHeartbeats 2000000 in
theorem decF_3 (u : Nat) (hu : u < 18446744073709551616) (hN : revb 8 u < 16777216) : DecF 3 (be 3 ((revb 8 u : Nat) : Int)) u := by
  intro w a c hr
  obtain ⟨b0, b1, b2, b3, b4, b5, b6, b7, h0, h1, h2, h3, h4, h5, h6, h7, eu, eN⟩ := revb_split u hu
  obtain ⟨b, o, rfl, -, hc⟩ : ∃ b o, a = some ⟨b, o, none⟩ ∧ b < w.heap.size ∧ ∀ (i : Nat) (x : UInt8), (be 3 ((revb 8 u : Nat) : Int))[i]? = some x → w.cell? ⟨b, o + i, none⟩ = some (.int .u8 (x.toNat : Int)) := by
    rcases hr.2 with h | h
    · have := be_length 3 ((revb 8 u : Nat) : Int); rw [h] at this; cases this
    · exact h
  generalize revb 8 u = N at *
  have z0 : b0 = 0 := by omega
  have z1 : b1 = 0 := by omega
  have z2 : b2 = 0 := by omega
  have z3 : b3 = 0 := by omega
  have z4 : b4 = 0 := by omega
  have m0 : ((N : Nat) : Int) = (b7 : Int) * 1 + (b6 : Int) * 256 + (b5 : Int) * 65536 := by omega
  have m1 : ((N : Nat) : Int) / 256 = (b6 : Int) * 1 + (b5 : Int) * 256 := by rw [m0]; omega
  have m2 : ((N : Nat) : Int) / 256 / 256 = (b5 : Int) * 1 := by rw [m1]; omega
  have d0 : w.cell? ⟨b, o, none⟩ = some (.int .u8 ((b5 : Nat) : Int)) := by
    have := hc 0 _ rfl
    rw [u8z] at this
    rw [m2] at this
    rw [show o + 0 = o from rfl] at this
    exact this.trans (congrArg (fun z => some (Value.int .u8 z)) (by omega))
  have d1 : w.cell? ⟨b, o + 1, none⟩ = some (.int .u8 ((b6 : Nat) : Int)) := by
    have := hc 1 _ rfl
    rw [u8z] at this
    rw [m1] at this
    rw [show o + 1 = o + 1 from rfl] at this
    exact this.trans (congrArg (fun z => some (Value.int .u8 z)) (by omega))
  have d2 : w.cell? ⟨b, o + 2, none⟩ = some (.int .u8 ((b7 : Nat) : Int)) := by
    have := hc 2 _ rfl
    rw [u8z] at this
    rw [m0] at this
    rw [show o + 2 = o + 2 from rfl] at this
    exact this.trans (congrArg (fun z => some (Value.int .u8 z)) (by omega))
  have := decFloat_3 b o c b5 b6 b7 w h5 h6 h7 d0 d1 d2
  refine this.mono fun e w' ⟨g1, g2⟩ => ⟨?_, g2⟩
  rw [g1]
  exact congrArg (fun z => Ending.returned (.float .f64 z)) (by omega)

set_option maxRecDepth 100000 in
set_option maxHeartbeats 2000000 in
theorem decF_4 (u : Nat) (hu : u < 18446744073709551616) (hN : revb 8 u < 4294967296) : DecF 4 (be 4 ((revb 8 u : Nat) : Int)) u := by
  intro w a c hr
  obtain ⟨b0, b1, b2, b3, b4, b5, b6, b7, h0, h1, h2, h3, h4, h5, h6, h7, eu, eN⟩ := revb_split u hu
  obtain ⟨b, o, rfl, -, hc⟩ : ∃ b o, a = some ⟨b, o, none⟩ ∧ b < w.heap.size ∧ ∀ (i : Nat) (x : UInt8), (be 4 ((revb 8 u : Nat) : Int))[i]? = some x → w.cell? ⟨b, o + i, none⟩ = some (.int .u8 (x.toNat : Int)) := by
    rcases hr.2 with h | h
    · have := be_length 4 ((revb 8 u : Nat) : Int); rw [h] at this; cases this
    · exact h
  generalize revb 8 u = N at *
  have z0 : b0 = 0 := by omega
  have z1 : b1 = 0 := by omega
  have z2 : b2 = 0 := by omega
  have z3 : b3 = 0 := by omega
  have m0 : ((N : Nat) : Int) = (b7 : Int) * 1 + (b6 : Int) * 256 + (b5 : Int) * 65536 + (b4 : Int) * 16777216 := by omega
  have m1 : ((N : Nat) : Int) / 256 = (b6 : Int) * 1 + (b5 : Int) * 256 + (b4 : Int) * 65536 := by rw [m0]; omega
  have m2 : ((N : Nat) : Int) / 256 / 256 = (b5 : Int) * 1 + (b4 : Int) * 256 := by rw [m1]; omega
  have m3 : ((N : Nat) : Int) / 256 / 256 / 256 = (b4 : Int) * 1 := by rw [m2]; omega
  have d0 : w.cell? ⟨b, o, none⟩ = some (.int .u8 ((b4 : Nat) : Int)) := by
    have := hc 0 _ rfl
    rw [u8z] at this
    rw [m3] at this
    rw [show o + 0 = o from rfl] at this
    exact this.trans (congrArg (fun z => some (Value.int .u8 z)) (by omega))
  have d1 : w.cell? ⟨b, o + 1, none⟩ = some (.int .u8 ((b5 : Nat) : Int)) := by
    have := hc 1 _ rfl
    rw [u8z] at this
    rw [m2] at this
    rw [show o + 1 = o + 1 from rfl] at this
    exact this.trans (congrArg (fun z => some (Value.int .u8 z)) (by omega))
  have d2 : w.cell? ⟨b, o + 2, none⟩ = some (.int .u8 ((b6 : Nat) : Int)) := by
    have := hc 2 _ rfl
    rw [u8z] at this
    rw [m1] at this
    rw [show o + 2 = o + 2 from rfl] at this
    exact this.trans (congrArg (fun z => some (Value.int .u8 z)) (by omega))
  have d3 : w.cell? ⟨b, o + 3, none⟩ = some (.int .u8 ((b7 : Nat) : Int)) := by
    have := hc 3 _ rfl
    rw [u8z] at this
    rw [m0] at this
    rw [show o + 3 = o + 3 from rfl] at this
    exact this.trans (congrArg (fun z => some (Value.int .u8 z)) (by omega))
  have := decFloat_4 b o c b4 b5 b6 b7 w h4 h5 h6 h7 d0 d1 d2 d3
  refine this.mono fun e w' ⟨g1, g2⟩ => ⟨?_, g2⟩
  rw [g1]
  exact congrArg (fun z => Ending.returned (.float .f64 z)) (by omega)

set_option maxRecDepth 100000 in
set_option maxHeartbeats 2000000 in
theorem decF_5 (u : Nat) (hu : u < 18446744073709551616) (hN : revb 8 u < 1099511627776) : DecF 5 (be 5 ((revb 8 u : Nat) : Int)) u := by
  intro w a c hr
  obtain ⟨b0, b1, b2, b3, b4, b5, b6, b7, h0, h1, h2, h3, h4, h5, h6, h7, eu, eN⟩ := revb_split u hu
  obtain ⟨b, o, rfl, -, hc⟩ : ∃ b o, a = some ⟨b, o, none⟩ ∧ b < w.heap.size ∧ ∀ (i : Nat) (x : UInt8), (be 5 ((revb 8 u : Nat) : Int))[i]? = some x → w.cell? ⟨b, o + i, none⟩ = some (.int .u8 (x.toNat : Int)) := by
    rcases hr.2 with h | h
    · have := be_length 5 ((revb 8 u : Nat) : Int); rw [h] at this; cases this
    · exact h
  generalize revb 8 u = N at *
  have z0 : b0 = 0 := by omega
  have z1 : b1 = 0 := by omega
  have z2 : b2 = 0 := by omega
  have m0 : ((N : Nat) : Int) = (b7 : Int) * 1 + (b6 : Int) * 256 + (b5 : Int) * 65536 + (b4 : Int) * 16777216 + (b3 : Int) * 4294967296 := by omega
  have m1 : ((N : Nat) : Int) / 256 = (b6 : Int) * 1 + (b5 : Int) * 256 + (b4 : Int) * 65536 + (b3 : Int) * 16777216 := by rw [m0]; omega
  have m2 : ((N : Nat) : Int) / 256 / 256 = (b5 : Int) * 1 + (b4 : Int) * 256 + (b3 : Int) * 65536 := by rw [m1]; omega
  have m3 : ((N : Nat) : Int) / 256 / 256 / 256 = (b4 : Int) * 1 + (b3 : Int) * 256 := by rw [m2]; omega
  have m4 : ((N : Nat) : Int) / 256 / 256 / 256 / 256 = (b3 : Int) * 1 := by rw [m3]; omega
  have d0 : w.cell? ⟨b, o, none⟩ = some (.int .u8 ((b3 : Nat) : Int)) := by
    have := hc 0 _ rfl
    rw [u8z] at this
    rw [m4] at this
    rw [show o + 0 = o from rfl] at this
    exact this.trans (congrArg (fun z => some (Value.int .u8 z)) (by omega))
  have d1 : w.cell? ⟨b, o + 1, none⟩ = some (.int .u8 ((b4 : Nat) : Int)) := by
    have := hc 1 _ rfl
    rw [u8z] at this
    rw [m3] at this
    rw [show o + 1 = o + 1 from rfl] at this
    exact this.trans (congrArg (fun z => some (Value.int .u8 z)) (by omega))
  have d2 : w.cell? ⟨b, o + 2, none⟩ = some (.int .u8 ((b5 : Nat) : Int)) := by
    have := hc 2 _ rfl
    rw [u8z] at this
    rw [m2] at this
    rw [show o + 2 = o + 2 from rfl] at this
    exact this.trans (congrArg (fun z => some (Value.int .u8 z)) (by omega))
  have d3 : w.cell? ⟨b, o + 3, none⟩ = some (.int .u8 ((b6 : Nat) : Int)) := by
    have := hc 3 _ rfl
    rw [u8z] at this
    rw [m1] at this
    rw [show o + 3 = o + 3 from rfl] at this
    exact this.trans (congrArg (fun z => some (Value.int .u8 z)) (by omega))
  have d4 : w.cell? ⟨b, o + 4, none⟩ = some (.int .u8 ((b7 : Nat) : Int)) := by
    have := hc 4 _ rfl
    rw [u8z] at this
    rw [m0] at this
    rw [show o + 4 = o + 4 from rfl] at this
    exact this.trans (congrArg (fun z => some (Value.int .u8 z)) (by omega))
  have := decFloat_5 b o c b3 b4 b5 b6 b7 w h3 h4 h5 h6 h7 d0 d1 d2 d3 d4
  refine this.mono fun e w' ⟨g1, g2⟩ => ⟨?_, g2⟩
  rw [g1]
  exact congrArg (fun z => Ending.returned (.float .f64 z)) (by omega)

set_option maxRecDepth 100000 in
set_option maxHeartbeats 2000000 in
theorem decF_6 (u : Nat) (hu : u < 18446744073709551616) (hN : revb 8 u < 281474976710656) : DecF 6 (be 6 ((revb 8 u : Nat) : Int)) u := by
  intro w a c hr
  obtain ⟨b0, b1, b2, b3, b4, b5, b6, b7, h0, h1, h2, h3, h4, h5, h6, h7, eu, eN⟩ := revb_split u hu
  obtain ⟨b, o, rfl, -, hc⟩ : ∃ b o, a = some ⟨b, o, none⟩ ∧ b < w.heap.size ∧ ∀ (i : Nat) (x : UInt8), (be 6 ((revb 8 u : Nat) : Int))[i]? = some x → w.cell? ⟨b, o + i, none⟩ = some (.int .u8 (x.toNat : Int)) := by
    rcases hr.2 with h | h
    · have := be_length 6 ((revb 8 u : Nat) : Int); rw [h] at this; cases this
    · exact h
  generalize revb 8 u = N at *
  have z0 : b0 = 0 := by omega
  have z1 : b1 = 0 := by omega
  have m0 : ((N : Nat) : Int) = (b7 : Int) * 1 + (b6 : Int) * 256 + (b5 : Int) * 65536 + (b4 : Int) * 16777216 + (b3 : Int) * 4294967296 + (b2 : Int) * 1099511627776 := by omega
  have m1 : ((N : Nat) : Int) / 256 = (b6 : Int) * 1 + (b5 : Int) * 256 + (b4 : Int) * 65536 + (b3 : Int) * 16777216 + (b2 : Int) * 4294967296 := by rw [m0]; omega
  have m2 : ((N : Nat) : Int) / 256 / 256 = (b5 : Int) * 1 + (b4 : Int) * 256 + (b3 : Int) * 65536 + (b2 : Int) * 16777216 := by rw [m1]; omega
  have m3 : ((N : Nat) : Int) / 256 / 256 / 256 = (b4 : Int) * 1 + (b3 : Int) * 256 + (b2 : Int) * 65536 := by rw [m2]; omega
  have m4 : ((N : Nat) : Int) / 256 / 256 / 256 / 256 = (b3 : Int) * 1 + (b2 : Int) * 256 := by rw [m3]; omega
  have m5 : ((N : Nat) : Int) / 256 / 256 / 256 / 256 / 256 = (b2 : Int) * 1 := by rw [m4]; omega
  have d0 : w.cell? ⟨b, o, none⟩ = some (.int .u8 ((b2 : Nat) : Int)) := by
    have := hc 0 _ rfl
    rw [u8z] at this
    rw [m5] at this
    rw [show o + 0 = o from rfl] at this
    exact this.trans (congrArg (fun z => some (Value.int .u8 z)) (by omega))
  have d1 : w.cell? ⟨b, o + 1, none⟩ = some (.int .u8 ((b3 : Nat) : Int)) := by
    have := hc 1 _ rfl
    rw [u8z] at this
    rw [m4] at this
    rw [show o + 1 = o + 1 from rfl] at this
    exact this.trans (congrArg (fun z => some (Value.int .u8 z)) (by omega))
  have d2 : w.cell? ⟨b, o + 2, none⟩ = some (.int .u8 ((b4 : Nat) : Int)) := by
    have := hc 2 _ rfl
    rw [u8z] at this
    rw [m3] at this
    rw [show o + 2 = o + 2 from rfl] at this
    exact this.trans (congrArg (fun z => some (Value.int .u8 z)) (by omega))
  have d3 : w.cell? ⟨b, o + 3, none⟩ = some (.int .u8 ((b5 : Nat) : Int)) := by
    have := hc 3 _ rfl
    rw [u8z] at this
    rw [m2] at this
    rw [show o + 3 = o + 3 from rfl] at this
    exact this.trans (congrArg (fun z => some (Value.int .u8 z)) (by omega))
  have d4 : w.cell? ⟨b, o + 4, none⟩ = some (.int .u8 ((b6 : Nat) : Int)) := by
    have := hc 4 _ rfl
    rw [u8z] at this
    rw [m1] at this
    rw [show o + 4 = o + 4 from rfl] at this
    exact this.trans (congrArg (fun z => some (Value.int .u8 z)) (by omega))
  have d5 : w.cell? ⟨b, o + 5, none⟩ = some (.int .u8 ((b7 : Nat) : Int)) := by
    have := hc 5 _ rfl
    rw [u8z] at this
    rw [m0] at this
    rw [show o + 5 = o + 5 from rfl] at this
    exact this.trans (congrArg (fun z => some (Value.int .u8 z)) (by omega))
  have := decFloat_6 b o c b2 b3 b4 b5 b6 b7 w h2 h3 h4 h5 h6 h7 d0 d1 d2 d3 d4 d5
  refine this.mono fun e w' ⟨g1, g2⟩ => ⟨?_, g2⟩
  rw [g1]
  exact congrArg (fun z => Ending.returned (.float .f64 z)) (by omega)

set_option maxRecDepth 100000 in
set_option maxHeartbeats 2000000 in
theorem decF_7 (u : Nat) (hu : u < 18446744073709551616) (hN : revb 8 u < 72057594037927936) : DecF 7 (be 7 ((revb 8 u : Nat) : Int)) u := by
  intro w a c hr
  obtain ⟨b0, b1, b2, b3, b4, b5, b6, b7, h0, h1, h2, h3, h4, h5, h6, h7, eu, eN⟩ := revb_split u hu
  obtain ⟨b, o, rfl, -, hc⟩ : ∃ b o, a = some ⟨b, o, none⟩ ∧ b < w.heap.size ∧ ∀ (i : Nat) (x : UInt8), (be 7 ((revb 8 u : Nat) : Int))[i]? = some x → w.cell? ⟨b, o + i, none⟩ = some (.int .u8 (x.toNat : Int)) := by
    rcases hr.2 with h | h
    · have := be_length 7 ((revb 8 u : Nat) : Int); rw [h] at this; cases this
    · exact h
  generalize revb 8 u = N at *
  have z0 : b0 = 0 := by omega
  have m0 : ((N : Nat) : Int) = (b7 : Int) * 1 + (b6 : Int) * 256 + (b5 : Int) * 65536 + (b4 : Int) * 16777216 + (b3 : Int) * 4294967296 + (b2 : Int) * 1099511627776 + (b1 : Int) * 281474976710656 := by omega
  have m1 : ((N : Nat) : Int) / 256 = (b6 : Int) * 1 + (b5 : Int) * 256 + (b4 : Int) * 65536 + (b3 : Int) * 16777216 + (b2 : Int) * 4294967296 + (b1 : Int) * 1099511627776 := by rw [m0]; omega
  have m2 : ((N : Nat) : Int) / 256 / 256 = (b5 : Int) * 1 + (b4 : Int) * 256 + (b3 : Int) * 65536 + (b2 : Int) * 16777216 + (b1 : Int) * 4294967296 := by rw [m1]; omega
  have m3 : ((N : Nat) : Int) / 256 / 256 / 256 = (b4 : Int) * 1 + (b3 : Int) * 256 + (b2 : Int) * 65536 + (b1 : Int) * 16777216 := by rw [m2]; omega
  have m4 : ((N : Nat) : Int) / 256 / 256 / 256 / 256 = (b3 : Int) * 1 + (b2 : Int) * 256 + (b1 : Int) * 65536 := by rw [m3]; omega
  have m5 : ((N : Nat) : Int) / 256 / 256 / 256 / 256 / 256 = (b2 : Int) * 1 + (b1 : Int) * 256 := by rw [m4]; omega
  have m6 : ((N : Nat) : Int) / 256 / 256 / 256 / 256 / 256 / 256 = (b1 : Int) * 1 := by rw [m5]; omega
  have d0 : w.cell? ⟨b, o, none⟩ = some (.int .u8 ((b1 : Nat) : Int)) := by
    have := hc 0 _ rfl
    rw [u8z] at this
    rw [m6] at this
    rw [show o + 0 = o from rfl] at this
    exact this.trans (congrArg (fun z => some (Value.int .u8 z)) (by omega))
  have d1 : w.cell? ⟨b, o + 1, none⟩ = some (.int .u8 ((b2 : Nat) : Int)) := by
    have := hc 1 _ rfl
    rw [u8z] at this
    rw [m5] at this
    rw [show o + 1 = o + 1 from rfl] at this
    exact this.trans (congrArg (fun z => some (Value.int .u8 z)) (by omega))
  have d2 : w.cell? ⟨b, o + 2, none⟩ = some (.int .u8 ((b3 : Nat) : Int)) := by
    have := hc 2 _ rfl
    rw [u8z] at this
    rw [m4] at this
    rw [show o + 2 = o + 2 from rfl] at this
    exact this.trans (congrArg (fun z => some (Value.int .u8 z)) (by omega))
  have d3 : w.cell? ⟨b, o + 3, none⟩ = some (.int .u8 ((b4 : Nat) : Int)) := by
    have := hc 3 _ rfl
    rw [u8z] at this
    rw [m3] at this
    rw [show o + 3 = o + 3 from rfl] at this
    exact this.trans (congrArg (fun z => some (Value.int .u8 z)) (by omega))
  have d4 : w.cell? ⟨b, o + 4, none⟩ = some (.int .u8 ((b5 : Nat) : Int)) := by
    have := hc 4 _ rfl
    rw [u8z] at this
    rw [m2] at this
    rw [show o + 4 = o + 4 from rfl] at this
    exact this.trans (congrArg (fun z => some (Value.int .u8 z)) (by omega))
  have d5 : w.cell? ⟨b, o + 5, none⟩ = some (.int .u8 ((b6 : Nat) : Int)) := by
    have := hc 5 _ rfl
    rw [u8z] at this
    rw [m1] at this
    rw [show o + 5 = o + 5 from rfl] at this
    exact this.trans (congrArg (fun z => some (Value.int .u8 z)) (by omega))
  have d6 : w.cell? ⟨b, o + 6, none⟩ = some (.int .u8 ((b7 : Nat) : Int)) := by
    have := hc 6 _ rfl
    rw [u8z] at this
    rw [m0] at this
    rw [show o + 6 = o + 6 from rfl] at this
    exact this.trans (congrArg (fun z => some (Value.int .u8 z)) (by omega))
  have := decFloat_7 b o c b1 b2 b3 b4 b5 b6 b7 w h1 h2 h3 h4 h5 h6 h7 d0 d1 d2 d3 d4 d5 d6
  refine this.mono fun e w' ⟨g1, g2⟩ => ⟨?_, g2⟩
  rw [g1]
  exact congrArg (fun z => Ending.returned (.float .f64 z)) (by omega)

set_option maxRecDepth 100000 in
set_option maxHeartbeats 2000000 in
theorem decF_8 (u : Nat) (hu : u < 18446744073709551616) (_hN : revb 8 u < 18446744073709551616) : DecF 8 (be 8 ((revb 8 u : Nat) : Int)) u := by
  intro w a c hr
  obtain ⟨b0, b1, b2, b3, b4, b5, b6, b7, h0, h1, h2, h3, h4, h5, h6, h7, eu, eN⟩ := revb_split u hu
  obtain ⟨b, o, rfl, -, hc⟩ : ∃ b o, a = some ⟨b, o, none⟩ ∧ b < w.heap.size ∧ ∀ (i : Nat) (x : UInt8), (be 8 ((revb 8 u : Nat) : Int))[i]? = some x → w.cell? ⟨b, o + i, none⟩ = some (.int .u8 (x.toNat : Int)) := by
    rcases hr.2 with h | h
    · have := be_length 8 ((revb 8 u : Nat) : Int); rw [h] at this; cases this
    · exact h
  generalize revb 8 u = N at *

  have m0 : ((N : Nat) : Int) = (b7 : Int) * 1 + (b6 : Int) * 256 + (b5 : Int) * 65536 + (b4 : Int) * 16777216 + (b3 : Int) * 4294967296 + (b2 : Int) * 1099511627776 + (b1 : Int) * 281474976710656 + (b0 : Int) * 72057594037927936 := by omega
  have m1 : ((N : Nat) : Int) / 256 = (b6 : Int) * 1 + (b5 : Int) * 256 + (b4 : Int) * 65536 + (b3 : Int) * 16777216 + (b2 : Int) * 4294967296 + (b1 : Int) * 1099511627776 + (b0 : Int) * 281474976710656 := by rw [m0]; omega
  have m2 : ((N : Nat) : Int) / 256 / 256 = (b5 : Int) * 1 + (b4 : Int) * 256 + (b3 : Int) * 65536 + (b2 : Int) * 16777216 + (b1 : Int) * 4294967296 + (b0 : Int) * 1099511627776 := by rw [m1]; omega
  have m3 : ((N : Nat) : Int) / 256 / 256 / 256 = (b4 : Int) * 1 + (b3 : Int) * 256 + (b2 : Int) * 65536 + (b1 : Int) * 16777216 + (b0 : Int) * 4294967296 := by rw [m2]; omega
  have m4 : ((N : Nat) : Int) / 256 / 256 / 256 / 256 = (b3 : Int) * 1 + (b2 : Int) * 256 + (b1 : Int) * 65536 + (b0 : Int) * 16777216 := by rw [m3]; omega
  have m5 : ((N : Nat) : Int) / 256 / 256 / 256 / 256 / 256 = (b2 : Int) * 1 + (b1 : Int) * 256 + (b0 : Int) * 65536 := by rw [m4]; omega
  have m6 : ((N : Nat) : Int) / 256 / 256 / 256 / 256 / 256 / 256 = (b1 : Int) * 1 + (b0 : Int) * 256 := by rw [m5]; omega
  have m7 : ((N : Nat) : Int) / 256 / 256 / 256 / 256 / 256 / 256 / 256 = (b0 : Int) * 1 := by rw [m6]; omega
  have d0 : w.cell? ⟨b, o, none⟩ = some (.int .u8 ((b0 : Nat) : Int)) := by
    have := hc 0 _ rfl
    rw [u8z] at this
    rw [m7] at this
    rw [show o + 0 = o from rfl] at this
    exact this.trans (congrArg (fun z => some (Value.int .u8 z)) (by omega))
  have d1 : w.cell? ⟨b, o + 1, none⟩ = some (.int .u8 ((b1 : Nat) : Int)) := by
    have := hc 1 _ rfl
    rw [u8z] at this
    rw [m6] at this
    rw [show o + 1 = o + 1 from rfl] at this
    exact this.trans (congrArg (fun z => some (Value.int .u8 z)) (by omega))
  have d2 : w.cell? ⟨b, o + 2, none⟩ = some (.int .u8 ((b2 : Nat) : Int)) := by
    have := hc 2 _ rfl
    rw [u8z] at this
    rw [m5] at this
    rw [show o + 2 = o + 2 from rfl] at this
    exact this.trans (congrArg (fun z => some (Value.int .u8 z)) (by omega))
  have d3 : w.cell? ⟨b, o + 3, none⟩ = some (.int .u8 ((b3 : Nat) : Int)) := by
    have := hc 3 _ rfl
    rw [u8z] at this
    rw [m4] at this
    rw [show o + 3 = o + 3 from rfl] at this
    exact this.trans (congrArg (fun z => some (Value.int .u8 z)) (by omega))
  have d4 : w.cell? ⟨b, o + 4, none⟩ = some (.int .u8 ((b4 : Nat) : Int)) := by
    have := hc 4 _ rfl
    rw [u8z] at this
    rw [m3] at this
    rw [show o + 4 = o + 4 from rfl] at this
    exact this.trans (congrArg (fun z => some (Value.int .u8 z)) (by omega))
  have d5 : w.cell? ⟨b, o + 5, none⟩ = some (.int .u8 ((b5 : Nat) : Int)) := by
    have := hc 5 _ rfl
    rw [u8z] at this
    rw [m2] at this
    rw [show o + 5 = o + 5 from rfl] at this
    exact this.trans (congrArg (fun z => some (Value.int .u8 z)) (by omega))
  have d6 : w.cell? ⟨b, o + 6, none⟩ = some (.int .u8 ((b6 : Nat) : Int)) := by
    have := hc 6 _ rfl
    rw [u8z] at this
    rw [m1] at this
    rw [show o + 6 = o + 6 from rfl] at this
    exact this.trans (congrArg (fun z => some (Value.int .u8 z)) (by omega))
  have d7 : w.cell? ⟨b, o + 7, none⟩ = some (.int .u8 ((b7 : Nat) : Int)) := by
    have := hc 7 _ rfl
    rw [u8z] at this
    rw [m0] at this
    rw [show o + 7 = o + 7 from rfl] at this
    exact this.trans (congrArg (fun z => some (Value.int .u8 z)) (by omega))
  have := decFloat_8 b o c b0 b1 b2 b3 b4 b5 b6 b7 w h0 h1 h2 h3 h4 h5 h6 h7 d0 d1 d2 d3 d4 d5 d6 d7
  refine this.mono fun e w' ⟨g1, g2⟩ => ⟨?_, g2⟩
  rw [g1]
  exact congrArg (fun z => Ending.returned (.float .f64 z)) (by omega)

theorem decF_all (u : Nat) (hu : u < 18446744073709551616) : DecF (nb (revb 8 u)) (be (nb (revb 8 u)) ((revb 8 u : Nat) : Int)) u := by
  have hr := revb_lt 8 u
  rw [show 256 ^ 8 = 18446744073709551616 from rfl] at hr
  unfold nb
  by_cases q1 : revb 8 u < 256
  · rw [if_pos q1]; exact decF_1 u hu q1
  rw [if_neg q1]
  by_cases q2 : revb 8 u < 65536
  · rw [if_pos q2]; exact decF_2 u hu q2
  rw [if_neg q2]
  by_cases q3 : revb 8 u < 16777216
  · rw [if_pos q3]; exact decF_3 u hu q3
  rw [if_neg q3]
  by_cases q4 : revb 8 u < 4294967296
  · rw [if_pos q4]; exact decF_4 u hu q4
  rw [if_neg q4]
  by_cases q5 : revb 8 u < 1099511627776
  · rw [if_pos q5]; exact decF_5 u hu q5
  rw [if_neg q5]
  by_cases q6 : revb 8 u < 281474976710656
  · rw [if_pos q6]; exact decF_6 u hu q6
  rw [if_neg q6]
  by_cases q7 : revb 8 u < 72057594037927936
  · rw [if_pos q7]; exact decF_7 u hu q7
  rw [if_neg q7]
  exact decF_8 u hu hr

end Go.Proofs.YtaoonpncnahhgaaDoor
