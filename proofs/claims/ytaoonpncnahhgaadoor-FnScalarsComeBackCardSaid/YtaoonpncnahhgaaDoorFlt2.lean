/-
  Plain facts about the words of floats: what is narrowed comes back; what an integer becomes.
-/
import Derived.Test.YtaoonpncnahhgaaDoorFlt
import Derived.Test.YtaoonpncnahhgaaDoorOrd
import Derived.Laws.ComplexArith
namespace Go.Proofs.YtaoonpncnahhgaaDoor
open Ieee Flt

def narrowP (x : Nat) : Prop := x % 9223372036854775808 = 0 ∨ (896 < x / 4503599627370496 % 2048 ∧ x / 4503599627370496 % 2048 < 1151)

theorem w64_of (x : Nat) (hx : x < 18446744073709551616) : ∃ neg, x = w64 neg (x / 4503599627370496 % 2048) (x % 4503599627370496) ∧ neg = (x / 9223372036854775808 == 1) := by
  refine ⟨x / 9223372036854775808 == 1, ?_, rfl⟩
  unfold w64
  by_cases h : x / 9223372036854775808 = 1
  · have : (x / 9223372036854775808 == 1) = true := by simpa using h
    rw [if_pos this]; omega
  · have : ¬ (x / 9223372036854775808 == 1) = true := by simpa using h
    rw [if_neg this]; omega

theorem not_inf_of_number {d : Datum} {s : Bool} {m : Nat} {e : Int} (h : d = .number s m e) : d.isInfinity = false := by subst h; rfl

/-- a number that was narrow comes back -/
theorem narrow_down (a : Nat) (ha : a < 18446744073709551616) (h29 : a % 536870912 = 0) (hn : narrowP a) : ∃ d, floatToFloatBits .f64 a .f32 = some d ∧ floatToFloatBits .f32 d .f64 = some a := by
  rcases hn with h0 | ⟨h1, h2⟩
  · rcases (by omega : a = 0 ∨ a = 9223372036854775808) with rfl | rfl
    · exact ⟨0, by decide, by decide⟩
    · exact ⟨2147483648, by decide, by decide⟩
  · obtain ⟨neg, hw, -⟩ := w64_of a ha
    obtain ⟨f, hf⟩ : ∃ f, a % 4503599627370496 = f * 2 ^ 29 := ⟨a % 4503599627370496 / 536870912, by omega⟩
    obtain ⟨e, he⟩ : ∃ e, a / 4503599627370496 % 2048 = e + 896 := ⟨a / 4503599627370496 % 2048 - 896, by omega⟩
    rw [he, hf] at hw
    have hf2 : f < 2 ^ 23 := by omega
    rw [he] at h1 h2
    clear hf he h29 ha
    subst hw
    have r1 : FloatKind.f64.decode (w64 neg (e + 896) (f * 2 ^ 29)) = .number neg (2 ^ 52 + f * 2 ^ 29) ((e : Int) - 179) := by
      have := read64 (neg := neg) (E := e + 896) (F := f * 2 ^ 29) (by omega) (by omega) (by omega)
      rw [show (((e + 896 : Nat) : Int) - 1075) = (e : Int) - 179 from by omega] at this
      exact this
    have r2 : FloatKind.f32.encode (.number neg (2 ^ 52 + f * 2 ^ 29) ((e : Int) - 179)) = w32 neg e f := write32 (by omega) (by omega) hf2
    have r3 : FloatKind.f32.decode (w32 neg e f) = .number neg (2 ^ 23 + f) ((e : Int) - 150) := read32 (by omega) (by omega) hf2
    have r4 : FloatKind.f64.encode (.number neg (2 ^ 23 + f) ((e : Int) - 150)) = w64 neg (e + 896) (f * 2 ^ 29) := by
      have := write64 (neg := neg) (m := 2 ^ 23 + f) (p := (e : Int) - 150) (k := 23) (by omega) (by show _ < 2 ^ 24; omega) (by omega) (by omega) (by omega)
      rw [show (((e : Int) - 150 + (23 : Nat) + 1023).toNat) = e + 896 from by omega, show ((2 ^ 23 + f) * 2 ^ (52 - 23) - 2 ^ 52) = f * 2 ^ 29 from by show (2 ^ 23 + f) * 2 ^ 29 - 2 ^ 52 = _; omega] at this
      exact this
    refine ⟨w32 neg e f, ?_, ?_⟩
    · unfold floatToFloatBits
      rw [if_neg (by decide), r1]
      simp only [r2]
      rw [if_neg (by rw [not_inf_of_number r3]; decide)]
    · unfold floatToFloatBits
      rw [if_neg (by decide), r3]
      simp only [r4]
      rw [if_neg (by rw [not_inf_of_number r1]; decide)]

/-- a float that is a number: what it stands for -/
theorem read_any (x : Nat) (hx : x < 18446744073709551616) (hE : x / 4503599627370496 % 2048 ≠ 2047) :
    FloatKind.f64.format.read x = .number (x / 9223372036854775808 == 1) (if x / 4503599627370496 % 2048 = 0 then x % 4503599627370496 else x % 4503599627370496 + 4503599627370496)
      (if x / 4503599627370496 % 2048 = 0 then -1074 else ((x / 4503599627370496 % 2048 : Nat) : Int) - 1075) := by
  obtain ⟨neg, hw, hneg⟩ := w64_of x hx
  have hF : x % 4503599627370496 < 4503599627370496 := Nat.mod_lt _ (by decide)
  have hE2 : x / 4503599627370496 % 2048 < 2048 := Nat.mod_lt _ (by decide)
  rw [← hneg]
  clear hneg
  generalize x % 4503599627370496 = F at *
  generalize x / 4503599627370496 % 2048 = E at *
  subst hw
  by_cases h0 : E = 0
  · subst h0
    simp only [if_true]
    have hsw : double.signWeight = 2 ^ 63 := rfl
    have hb : double.binade = 2 ^ 52 := rfl
    have hl : double.leastPlace = -1074 := by decide
    have hneg : (w64 neg 0 F / 2 ^ 63 % 2 == 1) = neg := by
      unfold w64; cases neg <;> simp <;> omega
    have hr : w64 neg 0 F % 2 ^ 63 = F := by
      unfold w64; cases neg <;> simp <;> omega
    show double.read _ = _
    unfold Format.read
    simp only [hsw, hb, hl, hneg, hr]
    rw [if_pos (by omega)]
  · simp only [if_neg h0]
    have := read64 (neg := neg) (E := E) (F := F) (by omega) (by omega) (by omega)
    rw [Nat.add_comm] at this
    exact this

end Go.Proofs.YtaoonpncnahhgaaDoor
