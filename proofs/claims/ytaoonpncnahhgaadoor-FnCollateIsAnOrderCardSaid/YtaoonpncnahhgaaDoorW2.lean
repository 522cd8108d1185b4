/-
  The walk of the reference's ofFloat, parts.
-/
import Derived.Test.YtaoonpncnahhgaaDoorW1
import Derived.Laws.BitsAllLaws
import Derived.Laws.Bits64
namespace Go.Proofs.YtaoonpncnahhgaaDoor
open Go.RowKit

theorem and_low (x k : Nat) (hx : x < 18446744073709551616) (hk : 2 ^ k - 1 < 18446744073709551616) : bits .and .u64 (x : Int) ((2 ^ k - 1 : Nat) : Int) = ((x % 2 ^ k : Nat) : Int) := by
  rw [u64_and_nat x (2 ^ k - 1) hx hk, Nat.and_two_pow_sub_one_eq_mod]
theorem and52 (x : Nat) (hx : x < 18446744073709551616) : bits .and .u64 (x : Int) 4503599627370495 = ((x % 2 ^ 52 : Nat) : Int) := and_low x 52 hx (by decide)
theorem and11 (x : Nat) (hx : x < 18446744073709551616) : bits .and .u64 (x : Int) 2047 = ((x % 2 ^ 11 : Nat) : Int) := and_low x 11 hx (by decide)
theorem or52 (x : Nat) (hx : x < 4503599627370496) : bits .or .u64 (x : Int) 4503599627370496 = ((x + 4503599627370496 : Nat) : Int) := by
  have := u64_or_nat x (2 ^ 52) (by omega) (by decide)
  rw [show ((2 ^ 52 : Nat) : Int) = 4503599627370496 from rfl] at this
  rw [this, Nat.or_comm]
  have h := Nat.two_pow_add_eq_or_of_lt (i := 52) (b := x) (by omega) 1
  rw [Nat.mul_one] at h
  rw [← h, Nat.add_comm]
theorem bcell {W w1 : World} (hb : Below W.heap.size W w1) : (∀ b o, b < W.heap.size → w1.cell? ⟨b, o, none⟩ = W.cell? ⟨b, o, none⟩) ∧ (∀ b o, b < W.heap.size → w1.frozen? ⟨b, o, none⟩ = W.frozen? ⟨b, o, none⟩) :=
  ⟨fun b o h => hb.cell (p := ⟨b, o, none⟩) h, fun b o h => hb.frozen (p := ⟨b, o, none⟩) h⟩
theorem below2 {W W1 : World} {o p : Obj} (h : Below ((W.alloc o).alloc p).heap.size ((W.alloc o).alloc p) W1) : Below W.heap.size W W1 ∧ W.heap.size + 1 < W1.heap.size := by
  have h0 := h.size
  simp at h0
  exact ⟨(two_below W o p).trans (h.mono (by simp; omega)), by omega⟩

/-- what a block of cells reads as, and that it may be written -/
theorem cells_at {W1 : World} {b : Nat} {cs : Array Value} {t : TypeId} (h : W1.heap[b]? = some (.cells cs t (0, 0))) : (∀ o, W1.cell? ⟨b, o, none⟩ = cs[o]?) ∧ (∀ o, W1.frozen? ⟨b, o, none⟩ = false) :=
  ⟨fun o => by simp [World.cell?, h], fun o => by simp [World.frozen?, h]⟩
theorem heap_new (W : World) (o : Obj) : (W.alloc o).heap[W.heap.size]? = some o := heap_alloc_new W o
theorem heap_new1 (W : World) (o p : Obj) : ((W.alloc o).alloc p).heap[W.heap.size]? = some o := by
  rw [Below.heap_alloc _ _ _ (by simp)]; exact heap_new W o
theorem heap_new2 (W : World) (o p : Obj) : ((W.alloc o).alloc p).heap[W.heap.size + 1]? = some p := by
  have := heap_new (W.alloc o) p
  simpa using this
/-- behind a call, two blocks having been laid ahead of it -/
theorem below2b {W W1 : World} {cs ds : Array Value} {s t : TypeId} (h : Below ((W.alloc (.cells cs s)).alloc (.cells ds t)).heap.size ((W.alloc (.cells cs s)).alloc (.cells ds t)) W1) :
    Below W.heap.size W W1 ∧ W.heap.size + 1 < W1.heap.size ∧ ((∀ o, W1.cell? ⟨W.heap.size, o, none⟩ = cs[o]?) ∧ (∀ o, W1.frozen? ⟨W.heap.size, o, none⟩ = false)) ∧
      ((∀ o, W1.cell? ⟨W.heap.size + 1, o, none⟩ = ds[o]?) ∧ (∀ o, W1.frozen? ⟨W.heap.size + 1, o, none⟩ = false)) :=
  ⟨(below2 h).1, (below2 h).2, cells_at ((h.block _ (by simp; omega)).trans (heap_new1 _ _ _)), cells_at ((h.block _ (by simp)).trans (heap_new2 _ _ _))⟩

theorem flt_core (x F E : Nat) (w : World) (b1 : bits .and .u64 (x : Int) 4503599627370495 = (F : Int)) (b2 : bits .and .u64 ((x : Int) / 4503599627370496) 2047 = (E : Int)) (hF : F < 4503599627370496) (hE : E < 2048) :
    Calls Tryd.prog 41 #[.int .u64 (x : Int)] w fun e w' => e = .returned (.tuple #[(fltOf ((x : Int) / 9223372036854775808 == 1) F E).1.v, .bool (fltOf ((x : Int) / 9223372036854775808 == 1) F E).2]) ∧ Below w.heap.size w w' := by
  by_cases h1 : E = 2047
  · subst h1
    by_cases h2 : F = 0
    · subst h2
      unfold fltOf
      simp only [if_true]
      go_enter Tryd.func41, Tryd.ntmps41
      go_wp2_with (go_at_call 27; refine (normal_any _ 1 5000 _ (by omega) (by omega) (by omega)).mono ?_; rintro e w1 ⟨rfl, hb⟩; obtain ⟨hB, hz, ⟨hc, hf⟩, -⟩ := below2b hb; clear hb)
      exact bodyPost_ret (v := .tuple #[(nrm ((x : Int) / 9223372036854775808 == 1) 1 5000).v, .bool true]) (by simp [results, Tryd.results41, go_sem, hc]) rfl ⟨rfl, ((hB.setCell (Nat.le_refl _) _).setCell (Nat.le_refl _) _).setCell (Nat.le_refl _) _⟩
    · have h2' : ((F : Int) != 0) = true := by rw [bne_iff_ne]; omega
      unfold fltOf
      simp only [if_true, if_neg h2]
      go_enter Tryd.func41, Tryd.ntmps41
      go_wp2_with fail
      exact bodyPost_ret (v := .tuple #[numV ((x : Int) / 9223372036854775808 == 1) F 0, .bool false]) (by simp [results, Tryd.results41, go_sem]) rfl ⟨rfl, two_below _ _ _⟩
  · have h1' : ((E : Int) == 2047) = false := by rw [beq_eq_false_iff_ne]; omega
    unfold fltOf
    simp only [if_neg h1]
    by_cases h2 : E = 0
    · subst h2
      simp only [if_true]
      go_enter Tryd.func41, Tryd.ntmps41
      go_wp2_with (go_at_call 27; refine (normal_any _ F (-1074) _ (by omega) (by omega) (by omega)).mono ?_; rintro e w1 ⟨rfl, hb⟩; obtain ⟨hB, hz, ⟨hc, hf⟩, -⟩ := below2b hb; clear hb)
      exact bodyPost_ret (v := .tuple #[(nrm ((x : Int) / 9223372036854775808 == 1) F (-1074)).v, .bool true]) (by simp [results, Tryd.results41, go_sem, hc]) rfl ⟨rfl, ((hB.setCell (Nat.le_refl _) _).setCell (Nat.le_refl _) _).setCell (Nat.le_refl _) _⟩
    · have h2' : ((E : Int) == 0) = false := by rw [beq_eq_false_iff_ne]; omega
      have b3 := or52 F hF
      simp only [if_neg h2]
      go_enter Tryd.func41, Tryd.ntmps41
      go_wp2_with (go_at_call 27; refine (normal_any _ (F + 4503599627370496) ((E : Int) - 1075) _ (by omega) (by omega) (by omega)).mono ?_; rintro e w1 ⟨rfl, hb⟩; obtain ⟨hB, hz, ⟨hc, hf⟩, -⟩ := below2b hb; clear hb)
      exact bodyPost_ret (v := .tuple #[(nrm ((x : Int) / 9223372036854775808 == 1) (F + 4503599627370496) ((E : Int) - 1075)).v, .bool true]) (by simp [results, Tryd.results41, go_sem, hc]) rfl ⟨rfl, ((hB.setCell (Nat.le_refl _) _).setCell (Nat.le_refl _) _).setCell (Nat.le_refl _) _⟩

theorem flt_any (x : Nat) (w : World) (hx : x < 18446744073709551616) :
    Calls Tryd.prog 41 #[.int .u64 (x : Int)] w fun e w' => e = .returned (.tuple #[(ofFlt x).1.v, .bool (ofFlt x).2]) ∧ Below w.heap.size w w' := by
  have b1 : bits .and .u64 (x : Int) 4503599627370495 = ((x % 4503599627370496 : Nat) : Int) := and52 x hx
  have b2 : bits .and .u64 ((x : Int) / 4503599627370496) 2047 = ((x / 4503599627370496 % 2048 : Nat) : Int) := by
    rw [show ((x : Int) / 4503599627370496) = ((x / 4503599627370496 : Nat) : Int) from by omega]
    exact and11 (x / 4503599627370496) (by omega)
  have h := flt_core x _ _ w b1 b2 (by omega) (by omega)
  have e : (((x : Int) / 9223372036854775808 == 1) : Bool) = (x / 9223372036854775808 == 1) := by
    rw [Bool.eq_iff_iff]; simp only [beq_iff_eq]; omega
  rw [e] at h
  unfold ofFlt
  exact h

end Go.Proofs.YtaoonpncnahhgaaDoor
