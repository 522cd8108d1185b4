/-
  What the reference computes, in plain Lean: numbers, scalars, their order. No program.
-/
import Derived.WalkKit
import Derived.WalkSpells
import Derived.WalkLawsBesides
import Derived.Lib.Hide
namespace Go.Proofs.YtaoonpncnahhgaaDoor
open Go.RowKit

/-- a number of the reference -/
structure Num where
  neg : Bool
  m : Nat
  e : Int
abbrev numV (neg : Bool) (m : Nat) (e : Int) : Value := .agg #[.bool neg, .int .u64 (m : Int), .int .i64 e]
abbrev numBox (neg : Bool) (m : Nat) (e : Int) : Obj := .cells #[.bool neg, .int .u64 (m : Int), .int .i64 e] 63
abbrev zeroBox : Obj := .cells #[.bool false, .int .u64 0, .int .i64 0] 63
abbrev Num.v (n : Num) : Value := numV n.neg n.m n.e

def nrm (neg : Bool) (m : Nat) (e : Int) : Num :=
  if m = 0 then ⟨false, 0, 0⟩ else ⟨neg, m * 2 ^ (63 - m.log2), e - ((63 - m.log2 : Nat) : Int)⟩

theorem nrm_zero (neg : Bool) (e : Int) : nrm neg 0 e = ⟨false, 0, 0⟩ := rfl

theorem nrm_of {neg : Bool} {m k : Nat} {e : Int} (h0 : 0 < m) (h1 : 2 ^ 63 ≤ m * 2 ^ k) (h2 : m * 2 ^ k < 2 ^ 64) :
    nrm neg m e = ⟨neg, m * 2 ^ k, e - (k : Int)⟩ := by
  have hl := Nat.log2_self_le (n := m) (by omega)
  have hu := Nat.lt_log2_self (n := m)
  have a : m.log2 + k < 64 := by
    have : 2 ^ (m.log2 + k) < 2 ^ 64 := by
      rw [Nat.pow_add]; exact Nat.lt_of_le_of_lt (Nat.mul_le_mul_right _ hl) h2
    exact (Nat.pow_lt_pow_iff_right (by omega)).1 this
  have b : 63 < m.log2 + 1 + k := by
    have : 2 ^ 63 < 2 ^ (m.log2 + 1 + k) := by
      rw [Nat.pow_add]; exact Nat.lt_of_le_of_lt h1 (Nat.mul_lt_mul_of_pos_right hu (Nat.two_pow_pos k))
    exact (Nat.pow_lt_pow_iff_right (by omega)).1 this
  have e1 : 63 - m.log2 = k := by omega
  unfold nrm
  rw [if_neg (by omega), e1]

def lessN (a b : Num) : Int :=
  if a.m = 0 ∧ b.m = 0 then 0
  else if a.m = 0 then (if b.neg = true then 1 else -1)
  else if b.m = 0 ∨ a.neg ≠ b.neg then (if a.neg = true then -1 else 1)
  else if a.e < b.e then (if a.neg = true then 1 else -1)
  else if b.e < a.e then (if a.neg = true then -1 else 1)
  else if a.m < b.m then (if a.neg = true then 1 else -1)
  else if b.m < a.m then (if a.neg = true then -1 else 1)
  else 0

def classOf (k : Int) : Int := if k = 0 then 0 else if k = 1 then 1 else if k < 16 then 2 else if k = 16 then 3 else 4

/-- the number of sign, exponent field and fraction field; false: it is none -/
def fltOf (neg : Bool) (F E : Nat) : Num × Bool :=
  if E = 2047 then (if F = 0 then (nrm neg 1 5000, true) else (⟨neg, F, 0⟩, false))
  else if E = 0 then (nrm neg F (-1074), true)
  else (nrm neg (F + 4503599627370496) ((E : Int) - 1075), true)
/-- the number of 64 bits; false: it is none -/
def ofFlt (x : Nat) : Num × Bool := fltOf (x / 9223372036854775808 == 1) (x % 4503599627370496) (x / 4503599627370496 % 2048)

/-- a scalar, as its cells hold it -/
structure Sc where
  kind : Int
  int : Int
  uint : Nat
  a : Nat
  b : Nat
  ba : Option Addr
  bn : Nat
  bc : Nat
  bytes : List UInt8

abbrev Sc.v (s : Sc) : Value := .agg #[.int .i64 s.kind, .int .i64 s.int, .int .u64 (s.uint : Int), .int .u64 (s.a : Int), .int .u64 (s.b : Int), .slice s.ba s.bn s.bc]

/-- its numbers are of their kinds -/
structure Sc.wf (s : Sc) : Prop where
  k0 : -9223372036854775808 ≤ s.kind
  k1 : s.kind ≤ 9223372036854775807
  i0 : -9223372036854775808 ≤ s.int
  i1 : s.int ≤ 9223372036854775807
  u1 : s.uint < 18446744073709551616
  a1 : s.a < 18446744073709551616
  b1 : s.b < 18446744073709551616
  n1 : s.bn ≤ 9223372036854775807
  c1 : s.bc ≤ 9223372036854775807
  nc : s.bn ≤ s.bc
  len : s.bytes.length = s.bn

def parts (s : Sc) : Num × Num × Bool :=
  if s.kind < 7 then (nrm (decide (s.int < 0)) s.int.natAbs 0, ⟨false, 0, 0⟩, true)
  else if s.kind < 12 then (nrm false s.uint 0, ⟨false, 0, 0⟩, true)
  else if 14 ≤ s.kind then ((ofFlt s.a).1, (ofFlt s.b).1, (ofFlt s.a).2 && (ofFlt s.b).2)
  else ((ofFlt s.a).1, ⟨false, 0, 0⟩, (ofFlt s.a).2)

def bytesCmp : List UInt8 → List UInt8 → Int
  | [], [] => 0
  | [], _ :: _ => -1
  | _ :: _, [] => 1
  | x :: xs, y :: ys => if x < y then -1 else if y < x then 1 else bytesCmp xs ys

def u64 (n : Int) : Nat := (n % 18446744073709551616).toNat

def cmpS (s t : Sc) : Int :=
  if classOf s.kind < classOf t.kind then -1
  else if classOf t.kind < classOf s.kind then 1
  else if classOf s.kind = 0 then 0
  else if classOf s.kind = 1 then lessN (nrm false (u64 s.int) 0) (nrm false (u64 t.int) 0)
  else if 2 < classOf s.kind then bytesCmp s.bytes t.bytes
  else if lessN (parts s).1 (parts t).1 ≠ 0 then lessN (parts s).1 (parts t).1
  else lessN (parts s).2.1 (parts t).2.1

def colS : List Sc → List Sc → Int
  | [], [] => 0
  | [], _ :: _ => -1
  | _ :: _, [] => 1
  | x :: xs, y :: ys => if cmpS x y ≠ 0 then cmpS x y else colS xs ys

end Go.Proofs.YtaoonpncnahhgaaDoor
