/-
  Orders' ranges; a callee's number under a name.
-/
import Derived.Test.YtaoonpncnahhgaaDoorC6
namespace Go.Proofs.YtaoonpncnahhgaaDoor
open Go.RowKit

theorem named {f : FuncId} {args : Array Value} {w : World} {C : Int} (h : Calls Tryd.prog f args w fun e w' => e = .returned (.int .i64 C) ∧ w' = w) :
    Calls Tryd.prog f args w fun e w' => ∃ c, C = c ∧ e = .returned (.int .i64 c) ∧ w' = w :=
  h.mono fun _ _ ⟨h1, h2⟩ => ⟨C, rfl, h1, h2⟩

theorem cmpI_range (a b : Int) : cmpI a b = 0 ∨ cmpI a b = 1 ∨ cmpI a b = -1 := by
  unfold cmpI
  split
  · exact .inr (.inr rfl)
  · split
    · exact .inr (.inl rfl)
    · exact .inl rfl
theorem ordF_range (a b : Nat) : ordF a b = 0 ∨ ordF a b = 1 ∨ ordF a b = -1 := by
  unfold ordF
  split
  · exact .inr (.inr rfl)
  · exact .inl rfl
  · exact .inr (.inl rfl)
theorem ordC_range (a b c d : Nat) : ordC a b c d = 0 ∨ ordC a b c d = 1 ∨ ordC a b c d = -1 := by
  unfold ordC
  split
  · exact .inr (.inr rfl)
  · exact ordF_range _ _
  · exact .inr (.inl rfl)
theorem bytesCmp_range : ∀ xs ys : List UInt8, bytesCmp xs ys = 0 ∨ bytesCmp xs ys = 1 ∨ bytesCmp xs ys = -1
  | [], [] => .inl rfl
  | [], _ :: _ => .inr (.inr rfl)
  | _ :: _, [] => .inr (.inl rfl)
  | x :: xs, y :: ys => by
    unfold bytesCmp
    split
    · exact .inr (.inr rfl)
    · split
      · exact .inr (.inl rfl)
      · exact bytesCmp_range xs ys

theorem bytesLess_cmp : ∀ xs ys : List UInt8, Op.bytesLess xs ys = decide (bytesCmp xs ys = -1) ∧ Op.bytesLess ys xs = decide (bytesCmp xs ys = 1) ∧ (xs == ys) = decide (bytesCmp xs ys = 0)
  | [], [] => ⟨rfl, rfl, rfl⟩
  | [], _ :: _ => ⟨rfl, rfl, rfl⟩
  | _ :: _, [] => ⟨rfl, rfl, rfl⟩
  | x :: xs, y :: ys => by
    have ih := bytesLess_cmp xs ys
    have e : ∀ a b : UInt8, a < b ↔ a.toNat < b.toNat := fun _ _ => UInt8.lt_iff_toNat_lt
    have e2 : ∀ a b : UInt8, a = b ↔ a.toNat = b.toNat := fun a b => ⟨congrArg _, UInt8.toNat_inj.1⟩
    simp only [Op.bytesLess, bytesCmp, List.cons_beq_cons]
    rw [ih.1, ih.2.1, ih.2.2]
    by_cases h1 : x < y
    · have h2 : ¬ y < x := by rw [e] at *; omega
      have h3 : (x == y) = false := by rw [beq_eq_false_iff_ne, ne_eq, e2]; rw [e] at h1; omega
      have h4 : (y == x) = false := by rw [beq_eq_false_iff_ne, ne_eq, e2]; rw [e] at h1; omega
      simp [h1, h2, h3, h4]
    · by_cases h2 : y < x
      · have h3 : (x == y) = false := by rw [beq_eq_false_iff_ne, ne_eq, e2]; rw [e] at h2; omega
        have h4 : (y == x) = false := by rw [beq_eq_false_iff_ne, ne_eq, e2]; rw [e] at h2; omega
        simp [h1, h2, h3, h4]
      · have h3 : x = y := by rw [e] at h1 h2; rw [e2]; omega
        subst h3
        simp [h1]

@[go_sem] theorem binOp_string_gtr (t : TypeId) (a b : ByteArray) : binOp .gtr t (.string a) (.string b) = pure (.bool (!Op.bytesLess a.toList b.toList && !(a.toList == b.toList))) := by simp [binOp, Op.stringOp]
@[go_sem] theorem neq_nilFunc (w : World) : (binOp .neq 99 .nilFunc .nilFunc).run Tryd.prog w = .ok (.bool false) w := by kernel_rfl

end Go.Proofs.YtaoonpncnahhgaaDoor
