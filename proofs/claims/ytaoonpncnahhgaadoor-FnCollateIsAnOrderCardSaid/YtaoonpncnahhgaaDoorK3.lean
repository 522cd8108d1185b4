/-
  Plain: the package's order of two values is the reference's of the scalars.
-/
import Derived.Test.YtaoonpncnahhgaaDoorK2
import Derived.Test.YtaoonpncnahhgaaDoorC10
import Derived.Test.YtaoonpncnahhgaaDoorM1
namespace Go.Proofs.YtaoonpncnahhgaaDoor
open Ieee Flt Go.RowKit

/-- the order of two pairs of keys -/
def cmp2 (a b c d : Int) : Int := if cmpI a b ≠ 0 then cmpI a b else cmpI c d
theorem cmp2_self (a b : Int) : cmp2 a b 0 0 = cmpI a b := by
  unfold cmp2
  by_cases h : cmpI a b = 0
  · rw [if_neg (by simpa using h), h]; rfl
  · rw [if_pos h]

theorem ordC_eq (a b c d : Nat) : ordC a b c d = if ordF a c ≠ 0 then ordF a c else ordF b d := by
  unfold ordC
  rcases h : FloatKind.f64.format.order a c with _ | (_ | _ | _) <;> simp [ordF, h]

theorem ordC_fv {a b c d : Nat} (ha : a < 18446744073709551616) (hb : b < 18446744073709551616) (hc : c < 18446744073709551616) (hd : d < 18446744073709551616) (oa : (ofFlt a).2 = true) (ob : (ofFlt b).2 = true) (oc : (ofFlt c).2 = true) (od : (ofFlt d).2 = true) :
    ordC a b c d = cmp2 (fv a) (fv c) (fv b) (fv d) := by
  rw [ordC_eq, ordF_fv ha hc oa oc, ordF_fv hb hd ob od]; rfl

theorem cmpS_num {s t : Sc} (hs : s.wf) (ht : t.wf) (cs : classOf s.kind = 2) (ct : classOf t.kind = 2) (ks : (parts s).2.2 = true) (kt : (parts t).2.2 = true) : cmpS s t = cmp2 (key1 s) (key1 t) (key2 s) (key2 t) := by
  unfold cmpS cmp2
  rw [cs, ct, less1 hs ht ks kt, less2 ks kt]
  simp

/-- what the scalars are, made alike -/
inductive Shape (s : Sc) : AV → Prop
  | nil (h : s.kind = 0) : Shape s .nil
  | bool (h : s.kind = 1) : Shape s (.bool (s.int != 0))
  | i64 (h : 2 ≤ s.kind) (h2 : s.kind < 7) : Shape s (.i64 s.int)
  | u64 (h : 7 ≤ s.kind) (h2 : s.kind < 12) : Shape s (.u64 s.uint)
  | f64 (h : 12 ≤ s.kind) (h2 : s.kind < 14) : Shape s (.f64 s.a)
  | c128 (h : 14 ≤ s.kind) (h2 : s.kind < 16) : Shape s (.c128 s.a s.b)
  | byt (h : s.kind = 16) : Shape s (.byt s.bytes)
  | str (h : s.kind = 17) : Shape s (.str s.bytes)

theorem shape {s : Sc} (h0 : 0 ≤ s.kind) (h1 : s.kind ≤ 17) : Shape s (ctOf (avS s)) := by
  obtain ⟨kd, it, u, fa, fb, ba, bn, bc, bs⟩ := s
  simp only at h0 h1
  obtain rfl | rfl | rfl | rfl | rfl | rfl | rfl | rfl | rfl | rfl | rfl | rfl | rfl | rfl | rfl | rfl | rfl | rfl : kd = 0 ∨ kd = 1 ∨ kd = 2 ∨ kd = 3 ∨ kd = 4 ∨ kd = 5 ∨ kd = 6 ∨ kd = 7 ∨ kd = 8 ∨ kd = 9 ∨ kd = 10 ∨ kd = 11 ∨ kd = 12 ∨ kd = 13 ∨ kd = 14 ∨ kd = 15 ∨ kd = 16 ∨ kd = 17 := by omega
  · exact .nil rfl
  · exact .bool rfl
  · exact .i64 (by simp) (by simp)
  · exact .i64 (by simp) (by simp)
  · exact .i64 (by simp) (by simp)
  · exact .i64 (by simp) (by simp)
  · exact .i64 (by simp) (by simp)
  · exact .u64 (by simp) (by simp)
  · exact .u64 (by simp) (by simp)
  · exact .u64 (by simp) (by simp)
  · exact .u64 (by simp) (by simp)
  · exact .u64 (by simp) (by simp)
  · exact .f64 (by simp) (by simp)
  · exact .f64 (by simp) (by simp)
  · exact .c128 (by simp) (by simp)
  · exact .c128 (by simp) (by simp)
  · exact .byt rfl
  · exact .str rfl

theorem class0 {k : Int} (h : k = 0) : classOf k = 0 := by subst h; rfl
theorem class1 {k : Int} (h : k = 1) : classOf k = 1 := by subst h; rfl
theorem class2 {k : Int} (h : 2 ≤ k) (h2 : k < 16) : classOf k = 2 := by unfold classOf; rw [if_neg (by omega), if_neg (by omega), if_pos h2]
theorem class3 {k : Int} (h : k = 16) : classOf k = 3 := by subst h; rfl
theorem class4 {k : Int} (h : k = 17) : classOf k = 4 := by subst h; rfl

theorem cmpS_lt {s t : Sc} (h : classOf s.kind < classOf t.kind) : cmpS s t = -1 := by unfold cmpS; rw [if_pos h]
theorem cmpS_gt {s t : Sc} (h : classOf t.kind < classOf s.kind) : cmpS s t = 1 := by unfold cmpS; rw [if_neg (by omega), if_pos h]

/-- a number that the two orders see alike: its keys, and what it is as a float -/
structure Fit (s : Sc) : Prop where
  wf : s.wf
  ok : OkFacts s
  num : classOf s.kind = 2 → (parts s).2.2 = true

theorem Fit.fa {s : Sc} (h : Fit s) (h1 : 12 ≤ s.kind) (h2 : s.kind < 16) : (ofFlt s.a).2 = true := by
  have := h.num (class2 (by omega) h2)
  unfold parts at this
  rw [if_neg (by omega), if_neg (by omega)] at this
  by_cases h3 : 14 ≤ s.kind
  · rw [if_pos h3] at this
    exact (Bool.and_eq_true _ _ ▸ this).1
  · rw [if_neg h3] at this
    exact this
theorem Fit.fb {s : Sc} (h : Fit s) (h1 : 14 ≤ s.kind) (h2 : s.kind < 16) : (ofFlt s.b).2 = true := by
  have := h.num (class2 (by omega) h2)
  unfold parts at this
  rw [if_neg (by omega), if_neg (by omega), if_pos h1] at this
  exact (Bool.and_eq_true _ _ ▸ this).2

theorem key1_i {s : Sc} (h : s.kind < 7) : key1 s = s.int * ((2 ^ 1074 : Nat) : Int) := by unfold key1; rw [if_pos h]
theorem key1_u {s : Sc} (h : 7 ≤ s.kind) (h2 : s.kind < 12) : key1 s = (s.uint : Int) * ((2 ^ 1074 : Nat) : Int) := by unfold key1; rw [if_neg (by omega), if_pos h2]
theorem key1_f {s : Sc} (h : 12 ≤ s.kind) : key1 s = fv s.a := by unfold key1; rw [if_neg (by omega), if_neg (by omega)]
theorem key2_0 {s : Sc} (h : s.kind < 14) : key2 s = 0 := by unfold key2; rw [if_neg (by omega)]
theorem key2_c {s : Sc} (h : 14 ≤ s.kind) : key2 s = fv s.b := by unfold key2; rw [if_pos h]

/-- neither is beyond 2^53 where the other is no integer kind's -/
def Plain2 (s t : Sc) : Prop := (greatS s = false ∧ greatS t = false) ∨ (realS s = false ∧ realS t = false)

theorem great_i {s : Sc} (h : greatS s = false) (h1 : 2 ≤ s.kind) (h2 : s.kind < 7) : -9007199254740992 ≤ s.int ∧ s.int ≤ 9007199254740992 := by
  unfold greatS at h
  rw [class2 h1 (by omega), if_pos h2] at h
  simp at h
  omega
theorem great_u {s : Sc} (h : greatS s = false) (h1 : 7 ≤ s.kind) (h2 : s.kind < 12) : -9007199254740992 ≤ (s.uint : Int) ∧ (s.uint : Int) ≤ 9007199254740992 := by
  unfold greatS at h
  rw [class2 (by omega) (by omega), if_neg (by omega)] at h
  simp [h2] at h
  omega
theorem real_no {s : Sc} (h1 : 12 ≤ s.kind) (h2 : s.kind < 16) : realS s = true := by
  unfold realS
  rw [class2 (by omega) h2]
  simpa using h1
theorem Plain2.l {s t : Sc} (h : Plain2 s t) (h1 : 12 ≤ t.kind) (h2 : t.kind < 16) : greatS s = false := by
  rcases h with h | h
  · exact h.1
  · rw [real_no h1 h2] at h; cases h.2
theorem Plain2.r {s t : Sc} (h : Plain2 s t) (h1 : 12 ≤ s.kind) (h2 : s.kind < 16) : greatS t = false := by
  rcases h with h | h
  · exact h.2
  · rw [real_no h1 h2] at h; cases h.1

theorem two_pos : 0 < 2 ^ 1074 := Nat.two_pow_pos 1074

end Go.Proofs.YtaoonpncnahhgaaDoor
