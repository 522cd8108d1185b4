/-
  The walks of the reference's functions on numbers.
-/
import Derived.Test.YtaoonpncnahhgaaDoorProg
import Derived.Test.YtaoonpncnahhgaaDoorDefs
import Derived.Outline
import Derived.BigQuiet
import Derived.Laws.BitsAllLaws
import Derived.Laws.Bits64
import Derived.Deep.RegionWith
import Derived.StillTailTactics
import Derived.Test.YtaoonpncnahhgaaDoorOrd
namespace Go.Proofs.YtaoonpncnahhgaaDoor
open Go.RowKit

theorem class_any (k : Int) (w : World) :
    Calls Tryd.prog 11 #[.int .i64 k] w fun e w' => e = .returned (.int .i64 (classOf k)) ∧ w = w' := by
  unfold classOf
  by_cases h0 : k = 0
  · subst h0
    go_enter Tryd.func11, Tryd.ntmps11
    go_wp2
    go_ret
    exact ⟨rfl, rfl⟩
  by_cases h1 : k = 1
  · subst h1
    go_enter Tryd.func11, Tryd.ntmps11
    go_wp2
    go_ret
    exact ⟨rfl, rfl⟩
  rw [if_neg h0, if_neg h1]
  by_cases h2 : k < 16
  · rw [if_pos h2]
    go_enter Tryd.func11, Tryd.ntmps11
    go_wp2
    go_ret
    exact ⟨rfl, rfl⟩
  rw [if_neg h2]
  by_cases h3 : k = 16
  · subst h3
    go_enter Tryd.func11, Tryd.ntmps11
    go_wp2
    go_ret
    exact ⟨rfl, rfl⟩
  rw [if_neg h3]
  go_enter Tryd.func11, Tryd.ntmps11
  go_wp2
  go_ret
  exact ⟨rfl, rfl⟩

/-- how far a box's number is from 2^64 -/
def boxFar (B : Nat) (w : World) : Nat := match w.cell? ⟨B, 1, none⟩ with | some v => 18446744073709551616 - (intOf v).toNat | none => 0
theorem boxFar_eq (w : World) (n : Bool) (m : Nat) (e : Int) (o : Obj) : boxFar w.heap.size ((w.alloc (.cells #[.bool n, .int .u64 (m : Int), .int .i64 e] 63)).alloc o) = 18446744073709551616 - m := by
  unfold boxFar
  simp [go_sem, intOf]
theorem two_below (w : World) (o p : Obj) : Below w.heap.size w ((w.alloc o).alloc p) := ((Below.refl _ _).alloc (Nat.le_refl _) _).alloc (by simp) _

theorem pow_step {m k M : Nat} (h0 : 0 < m) (h : m * 2 ^ k = M) (hM : M < 9223372036854775808) : k + 1 < 64 ∧ m * 2 ^ (k + 1) = M * 2 := by
  refine ⟨?_, by rw [Nat.pow_succ, ← Nat.mul_assoc, h]⟩
  have : 2 ^ k < 2 ^ 63 := by
    have := Nat.le_mul_of_pos_left (2 ^ k) h0
    omega
  have := (Nat.pow_lt_pow_iff_right (a := 2) (by omega)).1 this
  omega

theorem normal_any (neg : Bool) (m : Nat) (e : Int) (w : World) (hm : m < 18446744073709551616) (he : -10000 ≤ e) (he' : e ≤ 10000) :
    Calls Tryd.prog 27 #[numV neg m e] w fun e' w' => e' = .returned (nrm neg m e).v ∧ Below w.heap.size w w' := by
  rcases Nat.eq_zero_or_pos m with rfl | hm0
  · rw [nrm_zero]
    go_enter Tryd.func27, Tryd.ntmps27
    go_wp2_with fail
    exact bodyPost_ret (v := numV false 0 0) (by simp [results, Tryd.results27, go_sem]) rfl ⟨rfl, two_below _ _ _⟩
  · go_enter Tryd.func27, Tryd.ntmps27
    go_wp2_with fail
    go_loopw [7] (fun _ wr => ∃ M k : Nat, k < 64 ∧ m * 2 ^ k = M ∧ 0 < M ∧ M < 18446744073709551616 ∧ wr = ((w.alloc (numBox neg M (e - k))).alloc zeroBox)) (fun _ wr => boxFar w.heap.size wr)
    case atStart => exact ⟨m, 0, by omega, by simp, hm0, hm, by simp⟩
    case round =>
      obtain ⟨M, k, hk, hM, hM0, hM1, rfl⟩ := hrel
      have HM := Lib.hid hM
      clear hM
      by_cases hlt : M < 9223372036854775808
      · go_wp2_with fail
        have hs := pow_step hm0 HM.out hlt
        refine ⟨⟨M * 2, k + 1, hs.1, hs.2, by omega, by omega, ?_⟩, ?_⟩
        · unfold numBox; rw [show ((M * 2 : Nat) : Int) = (M : Int) * 2 from by omega, show e - (k : Int) - 1 = e - ((k + 1 : Nat) : Int) from by omega]
        · have h1 := boxFar_eq w neg (M * 2) (e - k - 1) zeroBox
          have h2 := boxFar_eq w neg M (e - k) zeroBox
          rw [show ((M * 2 : Nat) : Int) = (M : Int) * 2 from by omega] at h1
          rw [h1, h2]
          omega
      · go_wp2_with fail
        have hr := nrm_of (neg := neg) (e := e) hm0 (by rw [HM.out]; omega) (by rw [HM.out]; omega)
        rw [HM.out] at hr
        exact bodyPost_ret (v := numV neg M (e - k)) (by simp [results, Tryd.results27, go_sem]) rfl ⟨by rw [hr], two_below _ _ _⟩


theorem ret_i {k : IntKind} {a b : Int} (h : a = b) : Ending.returned (.int k a) = .returned (.int k b) := by rw [h]
set_option maxHeartbeats 2000000 in
theorem less_any (a b : Num) (w : World) (ha : a.m < 18446744073709551616) (hb : b.m < 18446744073709551616) :
    Calls Tryd.prog 26 #[a.v, b.v] w fun e w' => e = .returned (.int .i64 (lessN a b)) ∧ Below w.heap.size w w' := by
  obtain ⟨an, am, ae⟩ := a
  obtain ⟨bn, bm, be⟩ := b
  simp only at ha hb
  cases an <;> cases bn
  all_goals
    go_enter Tryd.func26, Tryd.ntmps26
    go_wp2_with fail
    all_goals go_ret
    all_goals refine ⟨ret_i ?_, two_below _ _ _⟩
    all_goals unfold lessN
    all_goals simp only [beq_iff_eq, bne_iff_ne, beq_eq_false_iff_ne, bne_eq_false_iff_eq, ne_eq, reduceCtorEq, Bool.false_eq_true, not_true_eq_false, not_false_eq_true, or_false, or_true, if_true, if_false] at *
    all_goals (repeat' split) <;> omega

end Go.Proofs.YtaoonpncnahhgaaDoor

namespace Go.Proofs.YtaoonpncnahhgaaDoor
open Go.RowKit

theorem and_low (x k : Nat) (hx : x < 18446744073709551616) (hk : 2 ^ k - 1 < 18446744073709551616) : bits .and .u64 (x : Int) ((2 ^ k - 1 : Nat) : Int) = ((x % 2 ^ k : Nat) : Int) := by
  rw [u64_and_nat x (2 ^ k - 1) hx hk, Nat.and_two_pow_sub_one_eq_mod]
theorem and52 (x : Nat) (hx : x < 18446744073709551616) : bits .and .u64 (x : Int) 4503599627370495 = ((x % 2 ^ 52 : Nat) : Int) := and_low x 52 hx (by decide)
theorem and11 (x : Nat) (hx : x < 18446744073709551616) : bits .and .u64 (x : Int) 2047 = ((x % 2 ^ 11 : Nat) : Int) := and_low x 11 hx (by decide)
theorem or52 (x : Nat) (hx : x < 4503599627370496) : bits .or .u64 (x : Int) 4503599627370496 = ((x + 4503599627370496 : Nat) : Int) := by
  have := u64_or_nat x (2 ^ 52) (by omega) (by decide)
  rw [show ((2 ^ 52 : Nat) : Int) = 4503599627370496 from rfl] at this
  rw [this, Nat.or_comm]
  have h := Nat.two_pow_add_eq_or_of_lt (i := 52) (b := x) (by omega) 1
  rw [Nat.mul_one] at h
  rw [← h, Nat.add_comm]
theorem bcell {W w1 : World} (hb : Below W.heap.size W w1) : (∀ b o, b < W.heap.size → w1.cell? ⟨b, o, none⟩ = W.cell? ⟨b, o, none⟩) ∧ (∀ b o, b < W.heap.size → w1.frozen? ⟨b, o, none⟩ = W.frozen? ⟨b, o, none⟩) :=
  ⟨fun b o h => hb.cell (p := ⟨b, o, none⟩) h, fun b o h => hb.frozen (p := ⟨b, o, none⟩) h⟩
theorem below2 {W W1 : World} {o p : Obj} (h : Below ((W.alloc o).alloc p).heap.size ((W.alloc o).alloc p) W1) : Below W.heap.size W W1 ∧ W.heap.size + 1 < W1.heap.size := by
  have h0 := h.size
  simp at h0
  exact ⟨(two_below W o p).trans (h.mono (by simp; omega)), by omega⟩

/-- what a block of cells reads as, and that it may be written -/
theorem cells_at {W1 : World} {b : Nat} {cs : Array Value} {t : TypeId} (h : W1.heap[b]? = some (.cells cs t (0, 0))) : (∀ o, W1.cell? ⟨b, o, none⟩ = cs[o]?) ∧ (∀ o, W1.frozen? ⟨b, o, none⟩ = false) :=
  ⟨fun o => by simp [World.cell?, h], fun o => by simp [World.frozen?, h]⟩
theorem heap_new (W : World) (o : Obj) : (W.alloc o).heap[W.heap.size]? = some o := heap_alloc_new W o
theorem heap_new1 (W : World) (o p : Obj) : ((W.alloc o).alloc p).heap[W.heap.size]? = some o := by
  rw [Below.heap_alloc _ _ _ (by simp)]; exact heap_new W o
theorem heap_new2 (W : World) (o p : Obj) : ((W.alloc o).alloc p).heap[W.heap.size + 1]? = some p := by
  have := heap_new (W.alloc o) p
  simpa using this
/-- behind a call, two blocks having been laid ahead of it -/
theorem below2b {W W1 : World} {cs ds : Array Value} {s t : TypeId} (h : Below ((W.alloc (.cells cs s)).alloc (.cells ds t)).heap.size ((W.alloc (.cells cs s)).alloc (.cells ds t)) W1) :
    Below W.heap.size W W1 ∧ W.heap.size + 1 < W1.heap.size ∧ ((∀ o, W1.cell? ⟨W.heap.size, o, none⟩ = cs[o]?) ∧ (∀ o, W1.frozen? ⟨W.heap.size, o, none⟩ = false)) ∧
      ((∀ o, W1.cell? ⟨W.heap.size + 1, o, none⟩ = ds[o]?) ∧ (∀ o, W1.frozen? ⟨W.heap.size + 1, o, none⟩ = false)) :=
  ⟨(below2 h).1, (below2 h).2, cells_at ((h.block _ (by simp; omega)).trans (heap_new1 _ _ _)), cells_at ((h.block _ (by simp)).trans (heap_new2 _ _ _))⟩

theorem flt_core (x F E : Nat) (w : World) (b1 : bits .and .u64 (x : Int) 4503599627370495 = (F : Int)) (b2 : bits .and .u64 ((x : Int) / 4503599627370496) 2047 = (E : Int)) (hF : F < 4503599627370496) (hE : E < 2048) :
    Calls Tryd.prog 41 #[.int .u64 (x : Int)] w fun e w' => e = .returned (.tuple #[(fltOf ((x : Int) / 9223372036854775808 == 1) F E).1.v, .bool (fltOf ((x : Int) / 9223372036854775808 == 1) F E).2]) ∧ Below w.heap.size w w' := by
  by_cases h1 : E = 2047
  · subst h1
    by_cases h2 : F = 0
    · subst h2
      unfold fltOf
      simp only [if_true]
      go_enter Tryd.func41, Tryd.ntmps41
      go_wp2_with (go_at_call 27; refine (normal_any _ 1 5000 _ (by omega) (by omega) (by omega)).mono ?_; rintro e w1 ⟨rfl, hb⟩; obtain ⟨hB, hz, ⟨hc, hf⟩, -⟩ := below2b hb; clear hb)
      exact bodyPost_ret (v := .tuple #[(nrm ((x : Int) / 9223372036854775808 == 1) 1 5000).v, .bool true]) (by simp [results, Tryd.results41, go_sem, hc]) rfl ⟨rfl, ((hB.setCell (Nat.le_refl _) _).setCell (Nat.le_refl _) _).setCell (Nat.le_refl _) _⟩
    · have h2' : ((F : Int) != 0) = true := by rw [bne_iff_ne]; omega
      unfold fltOf
      simp only [if_true, if_neg h2]
      go_enter Tryd.func41, Tryd.ntmps41
      go_wp2_with fail
      exact bodyPost_ret (v := .tuple #[numV ((x : Int) / 9223372036854775808 == 1) F 0, .bool false]) (by simp [results, Tryd.results41, go_sem]) rfl ⟨rfl, two_below _ _ _⟩
  · have h1' : ((E : Int) == 2047) = false := by rw [beq_eq_false_iff_ne]; omega
    unfold fltOf
    simp only [if_neg h1]
    by_cases h2 : E = 0
    · subst h2
      simp only [if_true]
      go_enter Tryd.func41, Tryd.ntmps41
      go_wp2_with (go_at_call 27; refine (normal_any _ F (-1074) _ (by omega) (by omega) (by omega)).mono ?_; rintro e w1 ⟨rfl, hb⟩; obtain ⟨hB, hz, ⟨hc, hf⟩, -⟩ := below2b hb; clear hb)
      exact bodyPost_ret (v := .tuple #[(nrm ((x : Int) / 9223372036854775808 == 1) F (-1074)).v, .bool true]) (by simp [results, Tryd.results41, go_sem, hc]) rfl ⟨rfl, ((hB.setCell (Nat.le_refl _) _).setCell (Nat.le_refl _) _).setCell (Nat.le_refl _) _⟩
    · have h2' : ((E : Int) == 0) = false := by rw [beq_eq_false_iff_ne]; omega
      have b3 := or52 F hF
      simp only [if_neg h2]
      go_enter Tryd.func41, Tryd.ntmps41
      go_wp2_with (go_at_call 27; refine (normal_any _ (F + 4503599627370496) ((E : Int) - 1075) _ (by omega) (by omega) (by omega)).mono ?_; rintro e w1 ⟨rfl, hb⟩; obtain ⟨hB, hz, ⟨hc, hf⟩, -⟩ := below2b hb; clear hb)
      exact bodyPost_ret (v := .tuple #[(nrm ((x : Int) / 9223372036854775808 == 1) (F + 4503599627370496) ((E : Int) - 1075)).v, .bool true]) (by simp [results, Tryd.results41, go_sem, hc]) rfl ⟨rfl, ((hB.setCell (Nat.le_refl _) _).setCell (Nat.le_refl _) _).setCell (Nat.le_refl _) _⟩

theorem flt_any (x : Nat) (w : World) (hx : x < 18446744073709551616) :
    Calls Tryd.prog 41 #[.int .u64 (x : Int)] w fun e w' => e = .returned (.tuple #[(ofFlt x).1.v, .bool (ofFlt x).2]) ∧ Below w.heap.size w w' := by
  have b1 : bits .and .u64 (x : Int) 4503599627370495 = ((x % 4503599627370496 : Nat) : Int) := and52 x hx
  have b2 : bits .and .u64 ((x : Int) / 4503599627370496) 2047 = ((x / 4503599627370496 % 2048 : Nat) : Int) := by
    rw [show ((x : Int) / 4503599627370496) = ((x / 4503599627370496 : Nat) : Int) from by omega]
    exact and11 (x / 4503599627370496) (by omega)
  have h := flt_core x _ _ w b1 b2 (by omega) (by omega)
  have e : (((x : Int) / 9223372036854775808 == 1) : Bool) = (x / 9223372036854775808 == 1) := by
    rw [Bool.eq_iff_iff]; simp only [beq_iff_eq]; omega
  rw [e] at h
  unfold ofFlt
  exact h

end Go.Proofs.YtaoonpncnahhgaaDoor

namespace Go.Proofs.YtaoonpncnahhgaaDoor
open Go.RowKit

theorem three_below (w : World) (o p q : Obj) : Below w.heap.size w (((w.alloc o).alloc p).alloc q) := (two_below _ _ _).alloc (by simp; omega) _
theorem below3b {W W1 : World} {o : Obj} {cs ds : Array Value} {s t : TypeId} (h : Below (((W.alloc o).alloc (.cells cs s)).alloc (.cells ds t)).heap.size (((W.alloc o).alloc (.cells cs s)).alloc (.cells ds t)) W1) :
    Below W.heap.size W W1 ∧ W.heap.size + 2 < W1.heap.size ∧ (W1.heap[W.heap.size]? = some o) ∧ ((∀ o, W1.cell? ⟨W.heap.size + 1, o, none⟩ = cs[o]?) ∧ (∀ o, W1.frozen? ⟨W.heap.size + 1, o, none⟩ = false)) ∧
      ((∀ o, W1.cell? ⟨W.heap.size + 1 + 1, o, none⟩ = ds[o]?) ∧ (∀ o, W1.frozen? ⟨W.heap.size + 1 + 1, o, none⟩ = false)) := by
  have h0 := h.size
  simp at h0
  have h1 := heap_new1 (W.alloc o) (.cells cs s) (.cells ds t)
  have h2 := heap_new2 (W.alloc o) (.cells cs s) (.cells ds t)
  have h3 := heap_new W o
  simp only [World.size_alloc] at h1 h2
  refine ⟨(three_below W _ _ _).trans (h.mono (by simp; omega)), by omega, ?_, cells_at ((h.block _ (by simp)).trans h1), cells_at ((h.block _ (by simp)).trans h2)⟩
  rw [h.block _ (by simp; omega), Below.heap_alloc _ _ _ (by simp; omega), Below.heap_alloc _ _ _ (by simp), h3]

theorem wrap_neg2 (i : Int) (h0 : -9223372036854775808 ≤ i) (h : i < 0) : IntKind.u64.wrap (-IntKind.u64.wrap i) = ((i.natAbs : Nat) : Int) := by
  rw [IntKind.wrap_u64, IntKind.wrap_u64]; omega

theorem parts_neg (k i : Int) (n : Nat) (u a b : Nat) (ba : Option Addr) (bn bc : Nat) (w : World) (hk : k < 7) (hi : i < 0) (hr : IntKind.u64.wrap (-IntKind.u64.wrap i) = (n : Int)) (hn : n < 18446744073709551616) :
    Calls Tryd.prog 29 #[.agg #[.int .i64 k, .int .i64 i, .int .u64 (u : Int), .int .u64 (a : Int), .int .u64 (b : Int), .slice ba bn bc]] w fun e w' =>
      e = .returned (.tuple #[(nrm true n 0).v, numV false 0 0, .bool true]) ∧ Below w.heap.size w w' := by
  go_enter Tryd.func29, Tryd.ntmps29
  go_wp2_with (go_at_call 27; refine (normal_any true n 0 _ hn (by omega) (by omega)).mono ?_; rintro e w1 ⟨rfl, hb⟩; obtain ⟨hB, hz, -, ⟨hc, hf⟩, ⟨hc2, hf2⟩⟩ := below3b hb; clear hb)
  exact bodyPost_ret (v := .tuple #[(nrm true n 0).v, numV false 0 0, .bool true]) (by simp [results, Tryd.results29, go_sem, hc, hc2]) rfl
    ⟨rfl, (((((hB.setCell (by simp) _).setCell (by simp) _).setCell (by simp) _).setCell (by simp; omega) _).setCell (by simp; omega) _).setCell (by simp; omega) _⟩

theorem parts_pos (k : Int) (n : Nat) (u a b : Nat) (ba : Option Addr) (bn bc : Nat) (w : World) (hk : k < 7) (hn : n < 9223372036854775808) :
    Calls Tryd.prog 29 #[.agg #[.int .i64 k, .int .i64 (n : Int), .int .u64 (u : Int), .int .u64 (a : Int), .int .u64 (b : Int), .slice ba bn bc]] w fun e w' =>
      e = .returned (.tuple #[(nrm false n 0).v, numV false 0 0, .bool true]) ∧ Below w.heap.size w w' := by
  go_enter Tryd.func29, Tryd.ntmps29
  go_wp2_with (go_at_call 27; refine (normal_any false n 0 _ (by omega) (by omega) (by omega)).mono ?_; rintro e w1 ⟨rfl, hb⟩; obtain ⟨hB, hz, -, ⟨hc, hf⟩, ⟨hc2, hf2⟩⟩ := below3b hb; clear hb)
  exact bodyPost_ret (v := .tuple #[(nrm false n 0).v, numV false 0 0, .bool true]) (by simp [results, Tryd.results29, go_sem, hc, hc2]) rfl
    ⟨rfl, (((((hB.setCell (by simp) _).setCell (by simp) _).setCell (by simp) _).setCell (by simp; omega) _).setCell (by simp; omega) _).setCell (by simp; omega) _⟩

theorem parts_uint (k i : Int) (u a b : Nat) (ba : Option Addr) (bn bc : Nat) (w : World) (hk : 7 ≤ k) (hk2 : k < 12) (hn : u < 18446744073709551616) :
    Calls Tryd.prog 29 #[.agg #[.int .i64 k, .int .i64 i, .int .u64 (u : Int), .int .u64 (a : Int), .int .u64 (b : Int), .slice ba bn bc]] w fun e w' =>
      e = .returned (.tuple #[(nrm false u 0).v, numV false 0 0, .bool true]) ∧ Below w.heap.size w w' := by
  go_enter Tryd.func29, Tryd.ntmps29
  go_wp2_with (go_at_call 27; refine (normal_any false u 0 _ hn (by omega) (by omega)).mono ?_; rintro e w1 ⟨rfl, hb⟩; obtain ⟨hB, hz, -, ⟨hc, hf⟩, ⟨hc2, hf2⟩⟩ := below3b hb; clear hb)
  exact bodyPost_ret (v := .tuple #[(nrm false u 0).v, numV false 0 0, .bool true]) (by simp [results, Tryd.results29, go_sem, hc, hc2]) rfl
    ⟨rfl, (((((hB.setCell (by simp) _).setCell (by simp) _).setCell (by simp) _).setCell (by simp; omega) _).setCell (by simp; omega) _).setCell (by simp; omega) _⟩

/-- three cells of a block, written one behind the other -/
theorem set3_at {W : World} {g : Nat} {x0 x1 x2 : Value} {t : TypeId} (h : W.heap[g]? = some (.cells #[x0, x1, x2] t (0, 0))) (y0 y1 y2 : Value) :
    (((W.setCell ⟨g, 0, none⟩ y0).setCell ⟨g, 1, none⟩ y1).setCell ⟨g, 2, none⟩ y2).heap[g]? = some (.cells #[y0, y1, y2] t (0, 0)) := by
  simp [World.setCell, Array.getElem?_modify, h]
theorem set3_other {W : World} {g k : Nat} (hk : k ≠ g) (y0 y1 y2 : Value) :
    (((W.setCell ⟨g, 0, none⟩ y0).setCell ⟨g, 1, none⟩ y1).setCell ⟨g, 2, none⟩ y2).heap[k]? = W.heap[k]? := by
  rw [Below.heap_setCell _ _ _ _ hk, Below.heap_setCell _ _ _ _ hk, Below.heap_setCell _ _ _ _ hk]
theorem set3_below {w W : World} {B g : Nat} (h : Below B w W) (hg : B ≤ g) (y0 y1 y2 : Value) :
    Below B w (((W.setCell ⟨g, 0, none⟩ y0).setCell ⟨g, 1, none⟩ y1).setCell ⟨g, 2, none⟩ y2) := ((h.setCell hg _).setCell hg _).setCell hg _

theorem parts_real_core (k i : Int) (u a b : Nat) (ba : Option Addr) (bn bc : Nat) (w : World) (hk : 12 ≤ k) (hk2 : k < 14) (zn zb : Bool) (zm : Nat) (ze : Int)
    (H : Hid (∀ w : World, Calls Tryd.prog 41 #[.int .u64 (a : Int)] w fun e w' => e = .returned (.tuple #[numV zn zm ze, .bool zb]) ∧ Below w.heap.size w w')) :
    Calls Tryd.prog 29 #[.agg #[.int .i64 k, .int .i64 i, .int .u64 (u : Int), .int .u64 (a : Int), .int .u64 (b : Int), .slice ba bn bc]] w fun e w' =>
      e = .returned (.tuple #[numV zn zm ze, numV false 0 0, .bool zb]) ∧ Below w.heap.size w w' := by
  go_enter Tryd.func29, Tryd.ntmps29
  go_wp2_with (go_at_call 41; refine (H.out _).mono ?_; rintro e w1 ⟨rfl, hb⟩; obtain ⟨hB, hz, hbox, ⟨hc, hf⟩, ⟨hc2, hf2⟩⟩ := below3b hb; obtain ⟨hc0, hf0⟩ := cells_at hbox)
  have q1 : w1.heap[w.heap.size + 1]? = some zeroBox := (hb.block _ (by simp)).trans (by simpa using heap_new1 (w.alloc _) zeroBox zeroBox)
  have q2 : w1.heap[w.heap.size + 1 + 1]? = some zeroBox := (hb.block _ (by simp)).trans (by simpa using heap_new2 (w.alloc _) zeroBox zeroBox)
  have r1 := set3_at q1 (.bool zn) (.int .u64 (zm : Int)) (.int .i64 ze)
  have r2 := (set3_other (W := w1) (g := w.heap.size + 1) (k := w.heap.size + 1 + 1) (by omega) (.bool zn) (.int .u64 (zm : Int)) (.int .i64 ze)).trans q2
  have r3 := set3_below hB (g := w.heap.size + 1) (by omega) (.bool zn) (.int .u64 (zm : Int)) (.int .i64 ze)
  clear hc hf hc2 hf2 hc0 hf0 hbox hb hB hz q1 q2
  generalize (((w1.setCell ⟨w.heap.size + 1, 0, none⟩ (.bool zn)).setCell ⟨w.heap.size + 1, 1, none⟩ (.int .u64 (zm : Int))).setCell ⟨w.heap.size + 1, 2, none⟩ (.int .i64 ze)) = W2 at *
  obtain ⟨c1, f1⟩ := cells_at r1
  obtain ⟨c2, f2⟩ := cells_at r2
  clear r1 r2
  go_region
  all_goals
    go_wp2_with fail
    exact bodyPost_ret (v := .tuple #[numV zn zm ze, numV false 0 0, .bool zb]) (by simp [results, Tryd.results29, go_sem, c1, c2]) rfl
      ⟨rfl, (((((((r3.setCell (by simp) _).setCell (by simp) _).setCell (by simp) _).setCell (by simp; omega) _).setCell (by simp; omega) _).setCell (by simp; omega) _)).drew⟩

theorem parts_complex_core (k i : Int) (u a b : Nat) (ba : Option Addr) (bn bc : Nat) (w : World) (hk : 14 ≤ k) (zn zb yn yb : Bool) (zm ym : Nat) (ze ye : Int)
    (H : Hid (∀ w : World, Calls Tryd.prog 41 #[.int .u64 (a : Int)] w fun e w' => e = .returned (.tuple #[numV zn zm ze, .bool zb]) ∧ Below w.heap.size w w'))
    (G : Hid (∀ w : World, Calls Tryd.prog 41 #[.int .u64 (b : Int)] w fun e w' => e = .returned (.tuple #[numV yn ym ye, .bool yb]) ∧ Below w.heap.size w w')) :
    Calls Tryd.prog 29 #[.agg #[.int .i64 k, .int .i64 i, .int .u64 (u : Int), .int .u64 (a : Int), .int .u64 (b : Int), .slice ba bn bc]] w fun e w' =>
      e = .returned (.tuple #[numV zn zm ze, numV yn ym ye, .bool (zb && yb)]) ∧ Below w.heap.size w w' := by
  go_enter Tryd.func29, Tryd.ntmps29
  go_wp2_with fail
  refine (H.out _).mono ?_
  rintro e w1 ⟨rfl, hb⟩
  obtain ⟨hB, hz, hbox, ⟨hc, hf⟩, ⟨hc2, hf2⟩⟩ := below3b hb
  obtain ⟨hc0, hf0⟩ := cells_at hbox
  go_wp2_with fail
  have q1 : w1.heap[w.heap.size + 1]? = some zeroBox := (hb.block _ (by simp)).trans (by simpa using heap_new1 (w.alloc _) zeroBox zeroBox)
  have q2 : w1.heap[w.heap.size + 1 + 1]? = some zeroBox := (hb.block _ (by simp)).trans (by simpa using heap_new2 (w.alloc _) zeroBox zeroBox)
  have r1 := set3_at q1 (.bool zn) (.int .u64 (zm : Int)) (.int .i64 ze)
  have r2 := (set3_other (W := w1) (g := w.heap.size + 1) (k := w.heap.size + 1 + 1) (by omega) (.bool zn) (.int .u64 (zm : Int)) (.int .i64 ze)).trans q2
  have r3 := set3_below hB (g := w.heap.size + 1) (by omega) (.bool zn) (.int .u64 (zm : Int)) (.int .i64 ze)
  have rz : w.heap.size + 2 < ((((w1.setCell ⟨w.heap.size + 1, 0, none⟩ (.bool zn)).setCell ⟨w.heap.size + 1, 1, none⟩ (.int .u64 (zm : Int))).setCell ⟨w.heap.size + 1, 2, none⟩ (.int .i64 ze))).heap.size := by
    simpa [World.setCell] using hz
  clear hc hf hc2 hf2 hc0 hf0 hbox hb hB hz q1 q2
  generalize (((w1.setCell ⟨w.heap.size + 1, 0, none⟩ (.bool zn)).setCell ⟨w.heap.size + 1, 1, none⟩ (.int .u64 (zm : Int))).setCell ⟨w.heap.size + 1, 2, none⟩ (.int .i64 ze)) = W2 at *
  refine (G.out _).mono ?_
  rintro e w3 ⟨rfl, hb3⟩
  have p1 := (hb3.block _ (by omega)).trans r1
  have p2 := (hb3.block _ (by omega)).trans r2
  have p3 := r3.trans (hb3.mono (Nat.le_trans (by omega) (Nat.le_of_lt rz)))
  clear r1 r2 r3 hb3 rz H G
  obtain ⟨c2, f2⟩ := cells_at p2
  cases zb
  all_goals
    go_wp2_with fail
    have r1 := (set3_other (W := w3) (g := w.heap.size + 1 + 1) (k := w.heap.size + 1) (by omega) (.bool yn) (.int .u64 (ym : Int)) (.int .i64 ye)).trans p1
    have r2 := set3_at p2 (.bool yn) (.int .u64 (ym : Int)) (.int .i64 ye)
    have r3 := set3_below p3 (g := w.heap.size + 1 + 1) (by omega) (.bool yn) (.int .u64 (ym : Int)) (.int .i64 ye)
    clear c2 f2 p1 p2 p3
    generalize (((w3.setCell ⟨w.heap.size + 1 + 1, 0, none⟩ (.bool yn)).setCell ⟨w.heap.size + 1 + 1, 1, none⟩ (.int .u64 (ym : Int))).setCell ⟨w.heap.size + 1 + 1, 2, none⟩ (.int .i64 ye)) = W4 at *
    obtain ⟨c1, f1⟩ := cells_at r1
    obtain ⟨c2, f2⟩ := cells_at r2
    clear r1 r2
    go_region
    go_wp2_with fail
    exact bodyPost_ret (v := .tuple #[numV zn zm ze, numV yn ym ye, .bool (_ && yb)]) (by simp [results, Tryd.results29, go_sem, c1, c2]) rfl
      ⟨rfl, (((((((r3.setCell (by simp) _).setCell (by simp) _).setCell (by simp) _).setCell (by simp; omega) _).setCell (by simp; omega) _).setCell (by simp; omega) _)).drew⟩

theorem parts_any (s : Sc) (h : s.wf) (w : World) :
    Calls Tryd.prog 29 #[s.v] w fun e w' => e = .returned (.tuple #[(parts s).1.v, (parts s).2.1.v, .bool (parts s).2.2]) ∧ Below w.heap.size w w' := by
  obtain ⟨k, i, u, a, b, ba, bn, bc, bs⟩ := s
  obtain ⟨k0, k1, i0, i1, u1, a1, b1, n1, c1, nc, len⟩ := h
  simp only at *
  unfold parts
  by_cases h7 : k < 7
  · simp only [if_pos h7]
    by_cases hi : i < 0
    · have := parts_neg k i i.natAbs u a b ba bn bc w h7 hi (wrap_neg2 i i0 hi) (by omega)
      simpa [hi] using this
    · obtain ⟨n, rfl⟩ := Int.eq_ofNat_of_zero_le (by omega : 0 ≤ i)
      have := parts_pos k n u a b ba bn bc w h7 (by omega)
      simpa [hi] using this
  · simp only [if_neg h7]
    by_cases h12 : k < 12
    · simp only [if_pos h12]
      exact parts_uint k i u a b ba bn bc w (by omega) h12 u1
    · simp only [if_neg h12]
      by_cases h14 : 14 ≤ k
      · simp only [if_pos h14]
        exact parts_complex_core k i u a b ba bn bc w h14 _ _ _ _ _ _ _ _ (Lib.hid (fun w => flt_any a w a1)) (Lib.hid (fun w => flt_any b w b1))
      · simp only [if_neg h14]
        exact parts_real_core k i u a b ba bn bc w (by omega) (by omega) _ _ _ _ (Lib.hid (fun w => flt_any a w a1))

end Go.Proofs.YtaoonpncnahhgaaDoor

namespace Go.Proofs.YtaoonpncnahhgaaDoor
open Go.RowKit

/-- a slice of bytes reads as a list -/
def rdB (B : Nat) (w : World) (ba : Option Addr) (bn : Nat) (bs : List UInt8) : Prop :=
  bs.length = bn ∧ (bs = [] ∨ ∃ b off, ba = some ⟨b, off, none⟩ ∧ b < B ∧ ∀ (i : Nat) (x : UInt8), bs[i]? = some x → w.cell? ⟨b, off + i, none⟩ = some (.int .u8 (x.toNat : Int)))

theorem rdB.below {B B' : Nat} {w w' : World} {ba : Option Addr} {bn : Nat} {bs : List UInt8} (h : rdB B w ba bn bs) (hb : Below B' w w') (hB : B ≤ B') : rdB B w' ba bn bs := by
  obtain ⟨h1, h2⟩ := h
  refine ⟨h1, ?_⟩
  rcases h2 with h2 | ⟨b, off, rfl, hlt, hc⟩
  · exact .inl h2
  · exact .inr ⟨b, off, rfl, hlt, fun i x hx => (hb.cell (p := ⟨b, off + i, none⟩) (Nat.lt_of_lt_of_le hlt hB)).trans (hc i x hx)⟩

theorem bytesCmp_drop {xs ys : List UInt8} {k : Nat} {x : UInt8} (h1 : xs[k]? = some x) (h2 : ys[k]? = some x) : bytesCmp (xs.drop k) (ys.drop k) = bytesCmp (xs.drop (k + 1)) (ys.drop (k + 1)) := by
  obtain ⟨l1, rfl⟩ := List.getElem?_eq_some_iff.1 h1
  obtain ⟨l2, e2⟩ := List.getElem?_eq_some_iff.1 h2
  rw [List.drop_eq_getElem_cons l1, List.drop_eq_getElem_cons l2, e2]
  simp [bytesCmp]
theorem bytesCmp_lt {xs ys : List UInt8} {k : Nat} {x y : UInt8} (h1 : xs[k]? = some x) (h2 : ys[k]? = some y) (h : x.toNat < y.toNat) : bytesCmp (xs.drop k) (ys.drop k) = -1 := by
  obtain ⟨l1, rfl⟩ := List.getElem?_eq_some_iff.1 h1
  obtain ⟨l2, rfl⟩ := List.getElem?_eq_some_iff.1 h2
  rw [List.drop_eq_getElem_cons l1, List.drop_eq_getElem_cons l2]
  have : xs[k] < ys[k] := UInt8.lt_iff_toNat_lt.2 h
  simp [bytesCmp, this]
theorem bytesCmp_gt {xs ys : List UInt8} {k : Nat} {x y : UInt8} (h1 : xs[k]? = some x) (h2 : ys[k]? = some y) (h : y.toNat < x.toNat) : bytesCmp (xs.drop k) (ys.drop k) = 1 := by
  obtain ⟨l1, rfl⟩ := List.getElem?_eq_some_iff.1 h1
  obtain ⟨l2, rfl⟩ := List.getElem?_eq_some_iff.1 h2
  rw [List.drop_eq_getElem_cons l1, List.drop_eq_getElem_cons l2]
  have h3 : ys[k] < xs[k] := UInt8.lt_iff_toNat_lt.2 h
  have h4 : ¬ xs[k] < ys[k] := fun h4 => by have := UInt8.lt_iff_toNat_lt.1 h4; omega
  simp [bytesCmp, h3, h4]
theorem bytesCmp_end {xs ys : List UInt8} (h : xs = [] ∨ ys = []) : bytesCmp xs ys = if xs.length < ys.length then -1 else if ys.length < xs.length then 1 else 0 := by
  rcases h with rfl | rfl
  · cases ys <;> simp [bytesCmp]
  · cases xs <;> simp [bytesCmp]

set_option maxHeartbeats 1000000 in
theorem bytes_any (a1 a2 : Option Addr) (n1 n2 c1 c2 : Nat) (xs ys : List UInt8) (w : World) (hx : rdB w.heap.size w a1 n1 xs) (hy : rdB w.heap.size w a2 n2 ys) (hn1 : n1 ≤ 9223372036854775807) (hn2 : n2 ≤ 9223372036854775807) :
    Calls Tryd.prog 28 #[.slice a1 n1 c1, .slice a2 n2 c2] w fun e w' => e = .returned (.int .i64 (bytesCmp xs ys)) ∧ Below w.heap.size w w' := by
  have HX := Lib.hid hx
  have HY := Lib.hid hy
  clear hx hy
  by_cases hle : n1 ≤ n2
  all_goals
    go_enter Tryd.func28, Tryd.ntmps28
    go_wp2_with fail
    go_loopw [11] (fun i wr => ∃ k : Nat, k ≤ n1 ∧ k ≤ n2 ∧ i = .int .i64 k ∧ bytesCmp (xs.drop k) (ys.drop k) = bytesCmp xs ys ∧ Below w.heap.size w wr) (fun i _ => n1 - (intOf i).toNat)
    case atStart => exact ⟨0, Nat.zero_le _, Nat.zero_le _, rfl, rfl, Below.refl _ _⟩
    case round =>
      obtain ⟨k, hk1, hk2, rfl, hcmp, hB⟩ := hrel
      have HC := Lib.hid hcmp
      clear hcmp
      by_cases hlt : k < n1 ∧ k < n2
      · obtain ⟨lt1, lt2⟩ := hlt
        have g1 := HX.out
        have g2 := HY.out
        obtain ⟨l1, g1⟩ := g1
        obtain ⟨l2, g2⟩ := g2
        rcases g1 with rfl | ⟨b1, o1, rfl, hb1, hc1⟩
        · simp at l1; omega
        rcases g2 with rfl | ⟨b2, o2, rfl, hb2, hc2⟩
        · simp at l2; omega
        obtain ⟨x, hx⟩ : ∃ x, xs[k]? = some x := ⟨_, List.getElem?_eq_getElem (by omega)⟩
        obtain ⟨y, hy⟩ : ∃ y, ys[k]? = some y := ⟨_, List.getElem?_eq_getElem (by omega)⟩
        have cx := (hB.cell (p := ⟨b1, o1 + k, none⟩) hb1).trans (hc1 k x hx)
        have cy := (hB.cell (p := ⟨b2, o2 + k, none⟩) hb2).trans (hc2 k y hy)
        have HXk := Lib.hid hx
        have HYk := Lib.hid hy
        clear hc1 hc2 l1 l2 hx hy HX HY
        by_cases hxy : x = y
        · subst hxy
          go_wp2_with fail
          go_quiet (fail)
          go_wp2_with fail
          go_roundw
          case rel => exact ⟨k + 1, by omega, by omega, by go_num, (bytesCmp_drop HXk.out HYk.out).symm.trans HC.out, below_drewN hB _⟩
          case measure => simp [intOf]; omega
        · have hne : ((x.toNat : Int) != (y.toNat : Int)) = true := by
            rw [bne_iff_ne]; intro h; exact hxy (UInt8.toNat_inj.1 (by omega))
          go_wp2_with fail
          go_quiet (fail)
          go_wp2_with fail
          go_quiet (fail)
          go_wp2_with fail
          · go_ret
            have h : x.toNat < y.toNat := by assumption
            exact ⟨ret_i ((bytesCmp_lt HXk.out HYk.out h).symm.trans HC.out), by repeat (first | exact hB | apply below_drewN)⟩
          · go_ret
            have h : ¬ x.toNat < y.toNat := by assumption
            have h' : y.toNat < x.toNat := by have : x.toNat ≠ y.toNat := fun e => hxy (UInt8.toNat_inj.1 e); omega
            exact ⟨ret_i ((bytesCmp_gt HXk.out HYk.out h').symm.trans HC.out), by repeat (first | exact hB | apply below_drewN)⟩
      · have l1 := HX.out.1
        have l2 := HY.out.1
        have he := bytesCmp_end (xs := xs.drop k) (ys := ys.drop k) (by
          rcases Nat.lt_or_ge k n1 with h | h
          · exact .inr (List.drop_eq_nil_of_le (by omega))
          · exact .inl (List.drop_eq_nil_of_le (by omega)))
        rw [List.length_drop, List.length_drop, l1, l2] at he
        have HE := Lib.hid (HC.out.symm.trans he)
        clear he l1 l2 HX HY HC
        go_wp2_with fail
        all_goals
          go_ret
          refine ⟨ret_i ?_, hB⟩
          rw [HE.out]
          first
            | (rw [if_pos (by omega)]; done)
            | (rw [if_neg (by omega), if_pos (by omega)]; done)
            | (rw [if_neg (by omega), if_neg (by omega)]; done)

end Go.Proofs.YtaoonpncnahhgaaDoor

namespace Go.Proofs.YtaoonpncnahhgaaDoor
open Go.RowKit

theorem class_same (k : Int) (w : World) : Calls Tryd.prog 11 #[.int .i64 k] w fun e w' => e = .returned (.int .i64 (classOf k)) ∧ w' = w :=
  (class_any k w).mono fun _ _ ⟨h1, h2⟩ => ⟨h1, h2.symm⟩

theorem class_tri (k : Int) : classOf k = 0 ∨ classOf k = 1 ∨ classOf k = 2 ∨ 2 < classOf k := by
  unfold classOf
  (repeat' split) <;> simp

theorem cmp_lt (s t : Sc) (w : World) (h : classOf s.kind < classOf t.kind) :
    Calls Tryd.prog 12 #[s.v, t.v] w fun e w' => e = .returned (.int .i64 (-1)) ∧ Below w.heap.size w w' := by
  obtain ⟨k, i, u, a, b, ba, bn, bc, bs⟩ := s
  obtain ⟨k', i', u', a', b', ba', bn', bc', bs'⟩ := t
  simp only at h
  go_enter Tryd.func12, Tryd.ntmps12
  go_wp2_with fail
  go_quiet ((first | (go_at_call 11; exact Calls.quiet_of_same (class_same _ _)) ))
  go_wp2_with fail
  go_ret
  exact ⟨rfl, by repeat (first | exact two_below _ _ _ | apply below_drewN)⟩

theorem cmp_gt (s t : Sc) (w : World) (h : classOf t.kind < classOf s.kind) :
    Calls Tryd.prog 12 #[s.v, t.v] w fun e w' => e = .returned (.int .i64 1) ∧ Below w.heap.size w w' := by
  obtain ⟨k, i, u, a, b, ba, bn, bc, bs⟩ := s
  obtain ⟨k', i', u', a', b', ba', bn', bc', bs'⟩ := t
  simp only at h
  have h' : ¬ classOf k < classOf k' := by omega
  go_enter Tryd.func12, Tryd.ntmps12
  go_wp2_with fail
  go_quiet ((first | (go_at_call 11; exact Calls.quiet_of_same (class_same _ _)) ))
  go_wp2_with fail
  go_ret
  exact ⟨rfl, by repeat (first | exact two_below _ _ _ | apply below_drewN)⟩

theorem class_eq (k v : Int) (h : classOf k = v) (w : World) : Calls Tryd.prog 11 #[.int .i64 k] w fun e w' => e = .returned (.int .i64 v) ∧ w' = w :=
  (class_any k w).mono fun _ _ ⟨h1, h2⟩ => ⟨by rw [h1, h], h2.symm⟩

theorem cmp_nil (s t : Sc) (w : World) (h : classOf s.kind = 0) (h2 : classOf t.kind = 0) :
    Calls Tryd.prog 12 #[s.v, t.v] w fun e w' => e = .returned (.int .i64 0) ∧ Below w.heap.size w w' := by
  obtain ⟨k, i, u, a, b, ba, bn, bc, bs⟩ := s
  obtain ⟨k', i', u', a', b', ba', bn', bc', bs'⟩ := t
  simp only at h h2
  have H := Lib.hid h
  have H2 := Lib.hid h2
  clear h h2
  go_enter Tryd.func12, Tryd.ntmps12
  go_wp2_with fail
  go_quiet ((first | (go_at_call_of 11 (Value.int .i64 k); exact Calls.quiet_of_same (class_eq k 0 H.out _)) | (go_at_call_of 11 (Value.int .i64 k'); exact Calls.quiet_of_same (class_eq k' 0 H2.out _)) ))
  go_wp2_with fail
  go_ret
  exact ⟨rfl, by repeat (first | exact two_below _ _ _ | apply below_drewN)⟩

theorem world2 (w : World) (cs ds : Array Value) (s t : TypeId) (n : Nat) :
    Below w.heap.size w (((w.alloc (.cells cs s)).alloc (.cells ds t)).drewN n) ∧ (((w.alloc (.cells cs s)).alloc (.cells ds t)).drewN n).heap.size = w.heap.size + 2 ∧
      (((w.alloc (.cells cs s)).alloc (.cells ds t)).drewN n).heap[w.heap.size]? = some (.cells cs s) ∧ (((w.alloc (.cells cs s)).alloc (.cells ds t)).drewN n).heap[w.heap.size + 1]? = some (.cells ds t) :=
  ⟨below_drewN (two_below _ _ _) _, by show ((w.alloc _).alloc _).heap.size = _; simp, heap_new1 _ _ _, heap_new2 _ _ _⟩
theorem rdB_mono {B B' : Nat} {w : World} {ba : Option Addr} {bn : Nat} {bs : List UInt8} (h : rdB B w ba bn bs) (hB : B ≤ B') : rdB B' w ba bn bs :=
  ⟨h.1, h.2.imp id fun ⟨b, o, e, hlt, hc⟩ => ⟨b, o, e, Nat.lt_of_lt_of_le hlt hB, hc⟩⟩

theorem cmp_bytes (s t : Sc) (w : World) (c : Int) (hc : 2 < c) (h : classOf s.kind = c) (h2 : classOf t.kind = c) (hs : s.wf) (ht : t.wf)
    (rs : rdB w.heap.size w s.ba s.bn s.bytes) (rt : rdB w.heap.size w t.ba t.bn t.bytes) :
    Calls Tryd.prog 12 #[s.v, t.v] w fun e w' => e = .returned (.int .i64 (bytesCmp s.bytes t.bytes)) ∧ Below w.heap.size w w' := by
  obtain ⟨k, i, u, a, b, ba, bn, bc, bs⟩ := s
  obtain ⟨k', i', u', a', b', ba', bn', bc', bs'⟩ := t
  have n1 := hs.n1
  have n2 := ht.n1
  simp only at h h2 rs rt n1 n2
  have H := Lib.hid h
  have H2 := Lib.hid h2
  have HS := Lib.hid rs
  have HT := Lib.hid rt
  clear h h2 hs ht rs rt
  go_enter Tryd.func12, Tryd.ntmps12
  go_wp2_with fail
  go_quiet ((first | (go_at_call_of 11 (Value.int .i64 k); exact Calls.quiet_of_same (class_eq k c H.out _)) | (go_at_call_of 11 (Value.int .i64 k'); exact Calls.quiet_of_same (class_eq k' c H2.out _)) ))
  obtain ⟨hB, hz, q1, q2⟩ := world2 w #[.int .i64 k, .int .i64 i, .int .u64 (u : Int), .int .u64 (a : Int), .int .u64 (b : Int), .slice ba bn bc] #[.int .i64 k', .int .i64 i', .int .u64 (u' : Int), .int .u64 (a' : Int), .int .u64 (b' : Int), .slice ba' bn' bc'] 35 35 nq
  generalize (World.drewN _ nq) = W at *
  have g1 := Lib.hid (HS.out.below hB (Nat.le_refl _))
  have g2 := Lib.hid (HT.out.below hB (Nat.le_refl _))
  obtain ⟨e1, f1⟩ := cells_at q1
  obtain ⟨e2, f2⟩ := cells_at q2
  clear q1 q2 HS HT H H2
  go_wp2_with fail
  refine (bytes_any ba ba' bn bn' bc bc' bs bs' W (rdB_mono g1.out (by omega)) (rdB_mono g2.out (by omega)) n1 n2).mono ?_
  rintro e w3 ⟨rfl, hb3⟩
  go_wp2_with fail
  go_ret
  exact ⟨rfl, hB.trans (hb3.mono (by omega))⟩

set_option maxHeartbeats 1000000 in
theorem cmp_num (s t : Sc) (w : World) (h : classOf s.kind = 2) (h2 : classOf t.kind = 2) (hs : s.wf) (ht : t.wf) (sn sb tn tb sjn tjn : Bool) (sm sjm tm tjm : Nat) (se sje te tje : Int)
    (HP : Hid (∀ w : World, Calls Tryd.prog 29 #[s.v] w fun e w' => e = .returned (.tuple #[numV sn sm se, numV sjn sjm sje, .bool sb]) ∧ Below w.heap.size w w'))
    (HR : Hid (∀ w : World, Calls Tryd.prog 29 #[t.v] w fun e w' => e = .returned (.tuple #[numV tn tm te, numV tjn tjm tje, .bool tb]) ∧ Below w.heap.size w w'))
    (m1 : sm < 18446744073709551616) (m2 : sjm < 18446744073709551616) (m3 : tm < 18446744073709551616) (m4 : tjm < 18446744073709551616) (c1 c2 : Int)
    (hc1 : lessN ⟨sn, sm, se⟩ ⟨tn, tm, te⟩ = c1) (hc2 : lessN ⟨sjn, sjm, sje⟩ ⟨tjn, tjm, tje⟩ = c2) :
    Calls Tryd.prog 12 #[s.v, t.v] w fun e w' => e = .returned (.int .i64 (if c1 ≠ 0 then c1 else c2)) ∧ Below w.heap.size w w' := by
  obtain ⟨k, i, u, a, b, ba, bn, bc, bs⟩ := s
  obtain ⟨k', i', u', a', b', ba', bn', bc', bs'⟩ := t
  simp only at h h2
  have H := Lib.hid h
  have H2 := Lib.hid h2
  have C1 := Lib.hid hc1
  have C2 := Lib.hid hc2
  clear h h2 hs ht hc1 hc2
  go_enter Tryd.func12, Tryd.ntmps12
  go_wp2_with fail
  go_quiet ((first | (go_at_call_of 11 (Value.int .i64 k); exact Calls.quiet_of_same (class_eq k 2 H.out _)) | (go_at_call_of 11 (Value.int .i64 k'); exact Calls.quiet_of_same (class_eq k' 2 H2.out _)) ))
  obtain ⟨hB, hz, q1, q2⟩ := world2 w #[.int .i64 k, .int .i64 i, .int .u64 (u : Int), .int .u64 (a : Int), .int .u64 (b : Int), .slice ba bn bc] #[.int .i64 k', .int .i64 i', .int .u64 (u' : Int), .int .u64 (a' : Int), .int .u64 (b' : Int), .slice ba' bn' bc'] 35 35 nq
  generalize (World.drewN _ nq) = W at *
  obtain ⟨e1, f1⟩ := cells_at q1
  obtain ⟨e2, f2⟩ := cells_at q2
  clear H H2
  go_wp2_with fail
  refine (HP.out _).mono ?_
  rintro e W1 ⟨rfl, hb1⟩
  have p2 := (hb1.block _ (by omega)).trans q2
  have z1 : w.heap.size + 1 < W1.heap.size := by have := hb1.size; omega
  have z1' : w.heap.size < W1.heap.size := by omega
  have B1 := hB.trans (hb1.mono (by omega))
  clear e1 f1 e2 f2 q1 q2 hb1 HP hz hB
  obtain ⟨e2, f2⟩ := cells_at p2
  go_wp2_with fail
  have a7 := heap_new1 W1 (numBox sn sm se) (numBox sjn sjm sje)
  have a8 := heap_new2 W1 (numBox sn sm se) (numBox sjn sjm sje)
  have B2 := B1.trans ((two_below W1 (numBox sn sm se) (numBox sjn sjm sje)).mono (by omega))
  have z2 : ((W1.alloc (numBox sn sm se)).alloc (numBox sjn sjm sje)).heap.size = W1.heap.size + 2 := by simp
  generalize ((W1.alloc (numBox sn sm se)).alloc (numBox sjn sjm sje)) = W2 at *
  refine (HR.out _).mono ?_
  rintro e W3 ⟨rfl, hb3⟩
  have r7 := (hb3.block _ (by omega)).trans a7
  have r8 := (hb3.block _ (by omega)).trans a8
  have z3 : W1.heap.size + 1 < W3.heap.size := by have := hb3.size; omega
  have B3 := B2.trans (hb3.mono (by omega))
  have z3' : W1.heap.size < W3.heap.size := by omega
  have z3'' : W1.heap.size ≤ W3.heap.size := by omega
  obtain ⟨d7, -⟩ := cells_at r7
  clear e2 f2 a7 a8 z2 hb3 HR B1 B2 p2
  go_wp2_with fail
  clear d7
  have y7 := (Below.heap_alloc (W3.alloc (numBox tn tm te)) (numBox tjn tjm tje) W1.heap.size (by simp; omega)).trans ((Below.heap_alloc W3 (numBox tn tm te) W1.heap.size (by omega)).trans r7)
  have y8 := (Below.heap_alloc (W3.alloc (numBox tn tm te)) (numBox tjn tjm tje) (W1.heap.size + 1) (by simp; omega)).trans ((Below.heap_alloc W3 (numBox tn tm te) (W1.heap.size + 1) (by omega)).trans r8)
  have y10 := heap_new1 W3 (numBox tn tm te) (numBox tjn tjm tje)
  have y11 := heap_new2 W3 (numBox tn tm te) (numBox tjn tjm tje)
  have B4 := B3.trans ((two_below W3 (numBox tn tm te) (numBox tjn tjm tje)).mono (by omega))
  have z4 : W3.heap.size + 1 < ((W3.alloc (numBox tn tm te)).alloc (numBox tjn tjm tje)).heap.size := by simp
  clear r7 r8 B3 z3' z3''
  generalize ((W3.alloc (numBox tn tm te)).alloc (numBox tjn tjm tje)) = W4 at *
  have zz : w.heap.size ≤ W4.heap.size := by omega
  refine (less_any ⟨sn, sm, se⟩ ⟨tn, tm, te⟩ W4 m1 m3).mono ?_
  rw [C1.out]
  rintro e W5 ⟨rfl, hb5⟩
  have x8 := (hb5.block _ (by omega)).trans y8
  have x11 := (hb5.block _ (by omega)).trans y11
  have B5 := B4.trans (hb5.mono zz)
  clear y7 y8 y10 y11 hb5 B4
  obtain ⟨d8, -⟩ := cells_at x8
  obtain ⟨d11, -⟩ := cells_at x11
  by_cases h0 : c1 = 0
  · subst h0
    go_wp2_with fail
    refine (less_any ⟨sjn, sjm, sje⟩ ⟨tjn, tjm, tje⟩ W5 m2 m4).mono ?_
    rw [C2.out]
    rintro e W6 ⟨rfl, hb6⟩
    go_wp2_with fail
    go_ret
    exact ⟨by simp, B5.trans (hb6.mono B5.size)⟩
  · have hne : (c1 != 0) = true := by rw [bne_iff_ne]; exact h0
    go_wp2_with fail
    go_ret
    exact ⟨by simp, B5⟩

end Go.Proofs.YtaoonpncnahhgaaDoor

namespace Go.Proofs.YtaoonpncnahhgaaDoor
open Go.RowKit

/-- one operation of a lexical walk, its value named -/
theorem wpQuiet_val {P : Program} {ops : Array Oper} {C : World → Prop} {Q : Act → Prop} {a : Act} {o : Oper} {rest : List Oper} (hg : o.guard = none) (v : Value)
    (h1 : ∀ w, C w → o.quietAt P a C w v) (h2 : wpQuiet P ops C Q rest (a.put o.dst v)) : wpQuiet P ops C Q (o :: rest) a := by
  unfold wpQuiet
  rw [if_pos (by simp [Region.wanted, hg])]
  exact ⟨v, h1, h2⟩

set_option maxHeartbeats 1000000 in
theorem cmp_bool (k i k' i' : Int) (n n' : Nat) (u a b bn bc u' a' b' bn' bc' : Nat) (ba ba' : Option Addr) (w : World) (h : classOf k = 1) (h2 : classOf k' = 1)
    (r1 : IntKind.u64.wrap i = (n : Int)) (r2 : IntKind.u64.wrap i' = (n' : Int)) (_hn : n < 18446744073709551616) (_hn' : n' < 18446744073709551616)
    (s1 t1 : Bool) (s2 t2 : Nat) (s3 t3 : Int) (c : Int) (m1 : s2 < 18446744073709551616) (m2 : t2 < 18446744073709551616)
    (HP : Hid (∀ w : World, Calls Tryd.prog 27 #[numV false n 0] w fun e w' => e = .returned (numV s1 s2 s3) ∧ Below w.heap.size w w'))
    (HR : Hid (∀ w : World, Calls Tryd.prog 27 #[numV false n' 0] w fun e w' => e = .returned (numV t1 t2 t3) ∧ Below w.heap.size w w'))
    (hc : lessN ⟨s1, s2, s3⟩ ⟨t1, t2, t3⟩ = c) :
    Calls Tryd.prog 12 #[.agg #[.int .i64 k, .int .i64 i, .int .u64 (u : Int), .int .u64 (a : Int), .int .u64 (b : Int), .slice ba bn bc], .agg #[.int .i64 k', .int .i64 i', .int .u64 (u' : Int), .int .u64 (a' : Int), .int .u64 (b' : Int), .slice ba' bn' bc']] w fun e w' => e = .returned (.int .i64 c) ∧ Below w.heap.size w w' := by
  have H := Lib.hid h
  have H2 := Lib.hid h2
  have HC := Lib.hid hc
  clear h h2 hc
  go_enter Tryd.func12, Tryd.ntmps12
  go_wp2_with fail
  go_quiet ((first | (go_at_call_of 11 (Value.int .i64 k); exact Calls.quiet_of_same (class_eq k 1 H.out _)) | (go_at_call_of 11 (Value.int .i64 k'); exact Calls.quiet_of_same (class_eq k' 1 H2.out _)) ))
  obtain ⟨hB, hz, q1, q2⟩ := world2 w #[.int .i64 k, .int .i64 i, .int .u64 (u : Int), .int .u64 (a : Int), .int .u64 (b : Int), .slice ba bn bc] #[.int .i64 k', .int .i64 i', .int .u64 (u' : Int), .int .u64 (a' : Int), .int .u64 (b' : Int), .slice ba' bn' bc'] 35 35 nq
  generalize (World.drewN _ nq) = W at *
  obtain ⟨e1, f1⟩ := cells_at q1
  obtain ⟨e2, f2⟩ := cells_at q2
  clear H H2
  go_wp2_with fail
  refine wp_region_quiet (C := fun w' => Below W.heap.size W w') (by kernel_rfl) (by kernel_rfl) ⟨rfl, rfl, rfl, Nat.le_refl _, fun _ _ => rfl⟩ ?_
  have cx : ∀ w', Below W.heap.size W w' → (∀ o, w'.cell? ⟨w.heap.size, o, none⟩ = #[Value.int .i64 k, .int .i64 i, .int .u64 (u : Int), .int .u64 (a : Int), .int .u64 (b : Int), .slice ba bn bc][o]?) := fun w' h => (cells_at ((h.block _ (by omega)).trans q1)).1
  have cy : ∀ w', Below W.heap.size W w' → (∀ o, w'.cell? ⟨w.heap.size + 1, o, none⟩ = #[Value.int .i64 k', .int .i64 i', .int .u64 (u' : Int), .int .u64 (a' : Int), .int .u64 (b' : Int), .slice ba' bn' bc'][o]?) := fun w' h => (cells_at ((h.block _ (by omega)).trans q2)).1
  clear e1 f1 e2 f2 q1 q2
  simp only []
  refine wpQuiet_val rfl (.pointer (some ⟨w.heap.size, 1, none⟩)) (fun w' hw' => ?_) ?_
  · simp [Oper.quietAt, Oper.quietUpon, go_sem]
  simp only [Act.put, List.setIfInBounds_toArray, List.set_cons_zero, List.set_cons_succ]
  refine wpQuiet_val rfl (.int .i64 i) (fun w' hw' => ?_) ?_
  · simp [Oper.quietAt, Oper.quietUpon, go_sem, cx w' hw']
  simp only [Act.put, List.setIfInBounds_toArray, List.set_cons_zero, List.set_cons_succ]
  refine wpQuiet_val rfl (.int .u64 (n : Int)) (fun w' hw' => ?_) ?_
  · simp [Oper.quietAt, Oper.quietUpon, go_sem, r1]
  simp only [Act.put, List.setIfInBounds_toArray, List.set_cons_zero, List.set_cons_succ]
  refine wpQuiet_val rfl (numV false n 0) (fun w' hw' => ?_) ?_
  · simp [Oper.quietAt, Oper.quietUpon, go_sem]
  simp only [Act.put, List.setIfInBounds_toArray, List.set_cons_zero, List.set_cons_succ]
  refine wpQuiet_val rfl (numV s1 s2 s3) (fun w' hw' => ?_) ?_
  · simp only [Oper.quietAt, go_sem]; simp [go_sem]; exact (HP.out w').mono fun _ _ ⟨g1, g2⟩ => ⟨g1, hw'.trans (g2.mono hw'.size)⟩
  simp only [Act.put, List.setIfInBounds_toArray, List.set_cons_zero, List.set_cons_succ]
  refine wpQuiet_val rfl (.pointer (some ⟨w.heap.size + 1, 1, none⟩)) (fun w' hw' => ?_) ?_
  · simp [Oper.quietAt, Oper.quietUpon, go_sem]
  simp only [Act.put, List.setIfInBounds_toArray, List.set_cons_zero, List.set_cons_succ]
  refine wpQuiet_val rfl (.int .i64 i') (fun w' hw' => ?_) ?_
  · simp [Oper.quietAt, Oper.quietUpon, go_sem, cy w' hw']
  simp only [Act.put, List.setIfInBounds_toArray, List.set_cons_zero, List.set_cons_succ]
  refine wpQuiet_val rfl (.int .u64 (n' : Int)) (fun w' hw' => ?_) ?_
  · simp [Oper.quietAt, Oper.quietUpon, go_sem, r2]
  simp only [Act.put, List.setIfInBounds_toArray, List.set_cons_zero, List.set_cons_succ]
  refine wpQuiet_val rfl (numV false n' 0) (fun w' hw' => ?_) ?_
  · simp [Oper.quietAt, Oper.quietUpon, go_sem]
  simp only [Act.put, List.setIfInBounds_toArray, List.set_cons_zero, List.set_cons_succ]
  refine wpQuiet_val rfl (numV t1 t2 t3) (fun w' hw' => ?_) ?_
  · simp only [Oper.quietAt, go_sem]; simp [go_sem]; exact (HR.out w').mono fun _ _ ⟨g1, g2⟩ => ⟨g1, hw'.trans (g2.mono hw'.size)⟩
  simp only [Act.put, List.setIfInBounds_toArray, List.set_cons_zero, List.set_cons_succ]
  refine wpQuiet_val rfl (.int .i64 c) (fun w' hw' => ?_) ?_
  · simp only [Oper.quietAt, go_sem]; simp [go_sem]; exact ((less_any ⟨s1, s2, s3⟩ ⟨t1, t2, t3⟩ w' m1 m2).mono fun _ _ ⟨g1, g2⟩ => (⟨g1.trans (ret_i HC.out), g2⟩ : _ = Ending.returned (.int .i64 c) ∧ Below w'.heap.size w' _)).mono fun _ _ ⟨g1, g2⟩ => ⟨g1, hw'.trans (g2.mono hw'.size)⟩
  simp only [Act.put, List.setIfInBounds_toArray, List.set_cons_zero, List.set_cons_succ]
  refine wpQuiet_val rfl (.int .i64 c) (fun w' hw' => ?_) ?_
  · simp [Oper.quietAt, Oper.quietUpon, go_sem]
  simp only [Act.put, List.setIfInBounds_toArray, List.set_cons_zero, List.set_cons_succ]
  refine wpQuiet_nil fun w' hw' => ?_
  clear cx cy
  go_wp2_with fail
  go_ret
  exact ⟨rfl, hB.trans (hw'.mono (by omega))⟩

theorem u64_wrap (i : Int) : IntKind.u64.wrap i = ((u64 i : Nat) : Int) := by
  rw [IntKind.wrap_u64]; unfold u64; omega
theorem u64_lt (i : Int) : u64 i < 18446744073709551616 := by unfold u64; omega

theorem nrm_m (neg : Bool) (m : Nat) (e : Int) (h : m < 18446744073709551616) : (nrm neg m e).m < 18446744073709551616 := by
  unfold nrm
  split
  · decide
  · rename_i h0
    have hl := Nat.log2_lt (n := m) (k := 64) h0
    have h1 : m.log2 < 64 := hl.2 h
    have hu := Nat.lt_log2_self (n := m)
    have : m * 2 ^ (63 - m.log2) < 2 ^ (m.log2 + 1) * 2 ^ (63 - m.log2) := Nat.mul_lt_mul_of_pos_right hu (Nat.two_pow_pos _)
    rw [← Nat.pow_add, show m.log2 + 1 + (63 - m.log2) = 64 by omega] at this
    exact this
theorem flt_m (x : Nat) : (ofFlt x).1.m < 18446744073709551616 := by
  unfold ofFlt fltOf
  have : x % 4503599627370496 < 4503599627370496 := Nat.mod_lt _ (by decide)
  (repeat' split) <;> first | exact nrm_m _ _ _ (by omega) | (show _ % _ < _; omega)
theorem parts_m (s : Sc) (h : s.wf) : (parts s).1.m < 18446744073709551616 ∧ (parts s).2.1.m < 18446744073709551616 := by
  have := h.i0; have := h.i1; have := h.u1
  unfold parts
  (repeat' split) <;> refine ⟨?_, ?_⟩ <;> first | exact flt_m _ | exact nrm_m _ _ _ (by omega) | exact (by decide : (0 : Nat) < 18446744073709551616)

theorem cmp_any (s t : Sc) (w : World) (hs : s.wf) (ht : t.wf) (rs : rdB w.heap.size w s.ba s.bn s.bytes) (rt : rdB w.heap.size w t.ba t.bn t.bytes) :
    Calls Tryd.prog 12 #[s.v, t.v] w fun e w' => e = .returned (.int .i64 (cmpS s t)) ∧ Below w.heap.size w w' := by
  unfold cmpS
  by_cases h1 : classOf s.kind < classOf t.kind
  · rw [if_pos h1]; exact cmp_lt s t w h1
  rw [if_neg h1]
  by_cases h2 : classOf t.kind < classOf s.kind
  · rw [if_pos h2]; exact cmp_gt s t w h2
  rw [if_neg h2]
  have he : classOf t.kind = classOf s.kind := by omega
  rcases class_tri s.kind with h | h | h | h
  · rw [if_pos h]; exact cmp_nil s t w h (by omega)
  · rw [if_neg (by omega), if_pos h]
    exact cmp_bool s.kind s.int t.kind t.int (u64 s.int) (u64 t.int) s.uint s.a s.b s.bn s.bc t.uint t.a t.b t.bn t.bc s.ba t.ba w h (by omega) (u64_wrap _) (u64_wrap _) (u64_lt _) (u64_lt _)
      _ _ _ _ _ _ _ (nrm_m _ _ _ (u64_lt _)) (nrm_m _ _ _ (u64_lt _)) (Lib.hid fun w => normal_any false _ 0 w (u64_lt _) (by omega) (by omega)) (Lib.hid fun w => normal_any false _ 0 w (u64_lt _) (by omega) (by omega)) rfl
  · rw [if_neg (by omega), if_neg (by omega), if_neg (by omega)]
    exact cmp_num s t w h (by omega) hs ht _ _ _ _ _ _ _ _ _ _ _ _ _ _ (Lib.hid fun w => parts_any s hs w) (Lib.hid fun w => parts_any t ht w) (parts_m s hs).1 (parts_m s hs).2 (parts_m t ht).1 (parts_m t ht).2 _ _ rfl rfl
  · rw [if_neg (by omega), if_neg (by omega), if_pos h]
    exact cmp_bytes s t w (classOf s.kind) h rfl he hs ht rs rt

end Go.Proofs.YtaoonpncnahhgaaDoor

namespace Go.Proofs.YtaoonpncnahhgaaDoor
open Go.RowKit

/-- a scalar lies at a place -/
structure scAt (B : Nat) (w : World) (b o : Nat) (s : Sc) : Prop where
  wf : s.wf
  c0 : w.cell? ⟨b, o, none⟩ = some (.int .i64 s.kind)
  c1 : w.cell? ⟨b, o + 1, none⟩ = some (.int .i64 s.int)
  c2 : w.cell? ⟨b, o + 2, none⟩ = some (.int .u64 (s.uint : Int))
  c3 : w.cell? ⟨b, o + 3, none⟩ = some (.int .u64 (s.a : Int))
  c4 : w.cell? ⟨b, o + 4, none⟩ = some (.int .u64 (s.b : Int))
  c5 : w.cell? ⟨b, o + 5, none⟩ = some (.slice s.ba s.bn s.bc)
  rd : rdB B w s.ba s.bn s.bytes

/-- a list of scalars lies at an address -/
def rdL (B : Nat) (w : World) (a : Option Addr) (L : List Sc) : Prop :=
  L = [] ∨ ∃ b o, a = some ⟨b, o, none⟩ ∧ b < B ∧ ∀ (i : Nat) (s : Sc), L[i]? = some s → scAt B w b (o + i * 6) s

theorem scAt.below {B B' : Nat} {w w' : World} {b o : Nat} {s : Sc} (h : scAt B w b o s) (hb : Below B' w w') (hB : B ≤ B') (hlt : b < B) : scAt B w' b o s :=
  have hlt' : b < B' := Nat.lt_of_lt_of_le hlt hB
  ⟨h.wf, (hb.cell (p := ⟨b, o, none⟩) hlt').trans h.c0, (hb.cell (p := ⟨b, o + 1, none⟩) hlt').trans h.c1, (hb.cell (p := ⟨b, o + 2, none⟩) hlt').trans h.c2,
    (hb.cell (p := ⟨b, o + 3, none⟩) hlt').trans h.c3, (hb.cell (p := ⟨b, o + 4, none⟩) hlt').trans h.c4, (hb.cell (p := ⟨b, o + 5, none⟩) hlt').trans h.c5, h.rd.below hb hB⟩
theorem scAt.mono {B B' : Nat} {w : World} {b o : Nat} {s : Sc} (h : scAt B w b o s) (hB : B ≤ B') : scAt B' w b o s :=
  ⟨h.wf, h.c0, h.c1, h.c2, h.c3, h.c4, h.c5, rdB_mono h.rd hB⟩
theorem rdL.below {B B' : Nat} {w w' : World} {a : Option Addr} {L : List Sc} (h : rdL B w a L) (hb : Below B' w w') (hB : B ≤ B') : rdL B w' a L :=
  h.imp id fun ⟨b, o, e, hlt, hc⟩ => ⟨b, o, e, hlt, fun i s hs => (hc i s hs).below hb hB hlt⟩
theorem rdL.mono {B B' : Nat} {w : World} {a : Option Addr} {L : List Sc} (h : rdL B w a L) (hB : B ≤ B') : rdL B' w a L :=
  h.imp id fun ⟨b, o, e, hlt, hc⟩ => ⟨b, o, e, Nat.lt_of_lt_of_le hlt hB, fun i s hs => (hc i s hs).mono hB⟩

abbrev boxI (s : Sc) : Obj := .cells #[.int .i64 s.kind, .int .i64 s.int, .int .u64 (s.uint : Int), .int .u64 (s.a : Int), .int .u64 (s.b : Int), .slice s.ba s.bn s.bc] 34

theorem fits6_any (s : Sc) (w : World) (hn : s.bn ≤ 9223372036854775807) :
    Calls Tryd.prog 17 #[s.v] w fun e w' => e = .returned (.bool (decide (s.bn ≤ 2147483647))) ∧ Below w.heap.size w w' := by
  obtain ⟨k, i, u, a, b, ba, n, c, bs⟩ := s
  simp only at hn
  by_cases h : n ≤ 2147483647
  · go_enter Tryd.func17, Tryd.ntmps17
    go_wp2
    go_ret
    exact ⟨by simp [h], (Below.refl _ _).alloc (Nat.le_refl _) _⟩
  · go_enter Tryd.func17, Tryd.ntmps17
    go_wp2
    go_ret
    exact ⟨by simp [h], (Below.refl _ _).alloc (Nat.le_refl _) _⟩

/-- no part of it is longer than 2^31 - 1 -/
def fitsB (L : List Sc) : Bool := decide (L.length ≤ 2147483647) && L.all fun s => decide (s.bn ≤ 2147483647)

theorem below1 (w : World) (o : Obj) : Below w.heap.size w (w.alloc o) := (Below.refl _ _).alloc (Nat.le_refl _) _

theorem fits5_any (a : Option Addr) (n c : Nat) (L : List Sc) (w : World) (hl : L.length = n) (hn : n ≤ 9223372036854775807) (h : rdL w.heap.size w a L) :
    Calls Tryd.prog 7 #[.slice a n c] w fun e w' => e = .returned (.bool (fitsB L)) ∧ Below w.heap.size w w' := by
  by_cases hle : n ≤ 2147483647
  · have HH := Lib.hid h
    have HL := Lib.hid hl
    clear h hl
    go_enter Tryd.func7, Tryd.ntmps7
    go_wp2_with fail
    go_loopw [10] (fun i wr => ∃ k : Nat, k ≤ n ∧ i = .int .i64 k ∧ Below w.heap.size w wr ∧ ∀ (j : Nat) (s : Sc), j < k → L[j]? = some s → s.bn ≤ 2147483647) (fun i _ => n - (intOf i).toNat)
    case atStart => exact ⟨0, Nat.zero_le _, rfl, Below.refl _ _, fun _ _ h => absurd h (by omega)⟩
    case round =>
      obtain ⟨k, hk, rfl, hB, hall⟩ := hrel
      have HA := Lib.hid hall
      clear hall
      by_cases hlt : k < n
      · obtain ⟨s, hs⟩ : ∃ s, L[k]? = some s := ⟨_, List.getElem?_eq_getElem (by rw [HL.out]; exact hlt)⟩
        rcases HH.out with h0 | ⟨b, o, rfl, hb, hc⟩
        · subst h0; simp at hs
        have hsc := (hc k s hs).below hB (Nat.le_refl _) hb
        have e0 := hsc.c0
        have e1 := hsc.c1
        have e2 := hsc.c2
        have e3 := hsc.c3
        have e4 := hsc.c4
        have e5 := hsc.c5
        have hwf := hsc.wf.n1
        have HS := Lib.hid hs
        clear hsc hs hc
        by_cases hf : s.bn ≤ 2147483647
        · have hd : decide (s.bn ≤ 2147483647) = true := by simpa using hf
          go_wp2_with (go_at_call 17; refine (fits6_any s _ hwf).mono ?_; rintro e w2 ⟨rfl, hb2⟩)
          go_roundw
          case rel =>
            refine ⟨k + 1, by omega, by go_num, hB.trans ((below1 wr _).trans (hb2.mono (by simp)) |>.mono hB.size), fun j t hj ht => ?_⟩
            rcases Nat.lt_or_ge j k with h1 | h1
            · exact HA.out j t h1 ht
            · obtain rfl : j = k := by omega
              rw [HS.out] at ht
              cases ht
              exact hf
          case measure => simp [intOf]; omega
        · have hd : decide (s.bn ≤ 2147483647) = false := by simpa using hf
          go_wp2_with (go_at_call 17; refine (fits6_any s _ hwf).mono ?_; rintro e w2 ⟨rfl, hb2⟩)
          go_ret
          have hno : fitsB L = false := by
            unfold fitsB
            rw [Bool.and_eq_false_iff]
            refine .inr (List.all_eq_false.2 ⟨s, List.mem_of_getElem? HS.out, by simpa using hf⟩)
          exact ⟨by rw [hno]; rfl, hB.trans ((below1 wr _).trans (hb2.mono (by simp)) |>.mono hB.size)⟩
      · go_wp2_with fail
        go_ret
        have hyes : fitsB L = true := by
          unfold fitsB
          rw [Bool.and_eq_true, List.all_eq_true]
          refine ⟨by simp [HL.out, hle], fun s hs => ?_⟩
          obtain ⟨j, hj⟩ := List.getElem?_of_mem hs
          have : j < L.length := by
            rcases Nat.lt_or_ge j L.length with h1 | h1
            · exact h1
            · rw [List.getElem?_eq_none h1] at hj; cases hj
          simpa using HA.out j s (by rw [HL.out] at this; omega) hj
        exact ⟨by rw [hyes]; rfl, hB⟩
  · have hno : fitsB L = false := by
      unfold fitsB
      rw [Bool.and_eq_false_iff]
      exact .inl (by simpa [hl] using hle)
    rw [hno]
    clear hno h hl
    go_enter Tryd.func7, Tryd.ntmps7
    go_wp2_with fail
    go_ret
    exact ⟨rfl, Below.refl _ _⟩

end Go.Proofs.YtaoonpncnahhgaaDoor

namespace Go.Proofs.YtaoonpncnahhgaaDoor
open Go.RowKit

/-- the number's exponent is usual, or it is 0 -/
def narrowB (x : Nat) : Bool := x % 9223372036854775808 == 0 || (decide (896 < x / 4503599627370496 % 2048) && decide (x / 4503599627370496 % 2048 < 1151))

theorem narrow_core (x E : Nat) (w : World) (hE : E < 2048) (b2 : bits .and .u64 ((x : Int) / 4503599627370496) 2047 = (E : Int)) (z : Int) (hz : IntKind.u64.wrap ((x : Int) * 2) = z) (hzb : z = 0 ∨ z ≠ 0) :
    Calls Tryd.prog 18 #[.int .u64 (x : Int)] w fun e w' => e = .returned (.bool (z == 0 || (decide (896 < E) && decide (E < 1151)))) ∧ w' = w := by
  by_cases h0 : z = 0
  · subst h0
    go_enter Tryd.func18, Tryd.ntmps18
    go_wp2_with fail
    go_ret
    exact ⟨rfl, rfl⟩
  · have h0' : (z == 0) = false := by rw [beq_eq_false_iff_ne]; exact h0
    by_cases h1 : 896 < E
    · go_enter Tryd.func18, Tryd.ntmps18
      go_wp2_with fail
      go_ret
      exact ⟨by simp [h0', h1]; omega, rfl⟩
    · go_enter Tryd.func18, Tryd.ntmps18
      go_wp2_with fail
      go_ret
      exact ⟨by simp, rfl⟩

theorem narrow_any (x : Nat) (w : World) (hx : x < 18446744073709551616) :
    Calls Tryd.prog 18 #[.int .u64 (x : Int)] w fun e w' => e = .returned (.bool (narrowB x)) ∧ w' = w := by
  have b2 : bits .and .u64 ((x : Int) / 4503599627370496) 2047 = ((x / 4503599627370496 % 2048 : Nat) : Int) := by
    rw [show ((x : Int) / 4503599627370496) = ((x / 4503599627370496 : Nat) : Int) from by omega]
    exact and11 (x / 4503599627370496) (by omega)
  have h := narrow_core x _ w (Nat.mod_lt _ (by decide)) b2 _ rfl (by omega)
  have e : (IntKind.u64.wrap ((x : Int) * 2) == 0) = (x % 9223372036854775808 == 0) := by
    rw [IntKind.wrap_u64, Bool.eq_iff_iff]; simp only [beq_iff_eq]; omega
  rw [e] at h
  exact h

/-- all numbers are such -/
def numsB (L : List Sc) : Bool := L.all fun s => !(classOf s.kind == 2) || (parts s).2.2

theorem numbers_any (a : Option Addr) (n c : Nat) (L : List Sc) (w : World) (hl : L.length = n) (hn : n ≤ 9223372036854775807) (h : rdL w.heap.size w a L) :
    Calls Tryd.prog 19 #[.slice a n c] w fun e w' => e = .returned (.bool (numsB L)) ∧ Below w.heap.size w w' := by
  have HH := Lib.hid h
  have HL := Lib.hid hl
  clear h hl
  go_enter Tryd.func19, Tryd.ntmps19
  go_wp2_with fail
  go_loopw [10] (fun i wr => ∃ k : Nat, k ≤ n ∧ i = .int .i64 k ∧ Below w.heap.size w wr ∧ ∀ (j : Nat) (s : Sc), j < k → L[j]? = some s → (!(classOf s.kind == 2) || (parts s).2.2) = true) (fun i _ => n - (intOf i).toNat)
  case atStart => exact ⟨0, Nat.zero_le _, rfl, Below.refl _ _, fun _ _ h => absurd h (by omega)⟩
  case round =>
    obtain ⟨k, hk, rfl, hB, hall⟩ := hrel
    have HA := Lib.hid hall
    clear hall
    by_cases hlt : k < n
    · obtain ⟨s, hs⟩ : ∃ s, L[k]? = some s := ⟨_, List.getElem?_eq_getElem (by rw [HL.out]; exact hlt)⟩
      rcases HH.out with h0 | ⟨b, o, rfl, hb, hc⟩
      · subst h0; simp at hs
      have hsc := (hc k s hs).below hB (Nat.le_refl _) hb
      have e0 := hsc.c0
      have e1 := hsc.c1
      have e2 := hsc.c2
      have e3 := hsc.c3
      have e4 := hsc.c4
      have e5 := hsc.c5
      have hwf := Lib.hid hsc.wf
      have HS := Lib.hid hs
      clear hsc hs hc
      have hstep : (!(classOf s.kind == 2) || (parts s).2.2) = true → ∀ (j : Nat) (t : Sc), j < k + 1 → L[j]? = some t → (!(classOf t.kind == 2) || (parts t).2.2) = true := fun hg j t hj ht => by
        rcases Nat.lt_or_ge j k with h1 | h1
        · exact HA.out j t h1 ht
        · obtain rfl : j = k := by omega
          rw [HS.out] at ht
          cases ht
          exact hg
      have HST := Lib.hid hstep
      clear hstep
      by_cases h2 : classOf s.kind = 2
      · have H2 := Lib.hid h2
        clear h2
        rcases hp : (parts s) with ⟨⟨p1, p2, p3⟩, ⟨q1, q2, q3⟩, ok⟩
        have HP := Lib.hid hp
        clear hp
        go_wp2_with (go_at_call 11; refine (class_eq s.kind 2 H2.out _).mono ?_; rintro e w2 ⟨rfl, rfl⟩)
        have hpa := parts_any s hwf.out
        rw [HP.out] at hpa
        cases ok
        all_goals
          refine (hpa _).mono ?_
          rintro e w2 ⟨rfl, hb2⟩
          have B2 := hB.trans (((below1 wr _).trans (hb2.mono (by simp))).mono hB.size)
          go_wp2_with fail
        · go_ret
          have hno : numsB L = false := List.all_eq_false.2 ⟨s, List.mem_of_getElem? HS.out, by rw [H2.out, HP.out]; simp⟩
          exact ⟨by rw [hno]; rfl, B2.trans ((two_below _ _ _).mono B2.size)⟩
        · go_roundw
          case rel => exact ⟨k + 1, by omega, by go_num, B2.trans ((two_below _ _ _).mono B2.size), HST.out (by rw [HP.out]; simp)⟩
          case measure => simp [intOf]; omega
      · have h2' : (classOf s.kind == 2) = false := by rw [beq_eq_false_iff_ne]; exact h2
        go_wp2_with (go_at_call 11; refine (class_any s.kind _).mono ?_; rintro e w2 ⟨rfl, rfl⟩)
        go_roundw
        case rel => exact ⟨k + 1, by omega, by go_num, hB.trans ((below1 wr _).mono hB.size), HST.out (by rw [h2']; rfl)⟩
        case measure => simp [intOf]; omega
    · go_wp2_with fail
      go_ret
      have hyes : numsB L = true := by
        unfold numsB
        rw [List.all_eq_true]
        intro s hs
        obtain ⟨j, hj⟩ := List.getElem?_of_mem hs
        have : j < L.length := by
          rcases Nat.lt_or_ge j L.length with h1 | h1
          · exact h1
          · rw [List.getElem?_eq_none h1] at hj; cases hj
        exact HA.out j s (by rw [HL.out] at this; omega) hj
      exact ⟨by rw [hyes]; rfl, hB⟩


theorem colS_drop {xs ys : List Sc} {k : Nat} {x y : Sc} (h1 : xs[k]? = some x) (h2 : ys[k]? = some y) : colS (xs.drop k) (ys.drop k) = if cmpS x y ≠ 0 then cmpS x y else colS (xs.drop (k + 1)) (ys.drop (k + 1)) := by
  obtain ⟨l1, rfl⟩ := List.getElem?_eq_some_iff.1 h1
  obtain ⟨l2, rfl⟩ := List.getElem?_eq_some_iff.1 h2
  rw [List.drop_eq_getElem_cons l1, List.drop_eq_getElem_cons l2]
  rfl
theorem colS_end {xs ys : List Sc} (h : xs = [] ∨ ys = []) : colS xs ys = cmpI xs.length ys.length := by
  rcases h with rfl | rfl
  · cases ys <;> simp [colS, cmpI] <;> omega
  · cases xs <;> simp [colS, cmpI] <;> omega

theorem six_load {B : Nat} {w : World} {b o : Nat} {s : Sc} (h : scAt B w b o s) (w' : World) (hb : Below B w w') (hlt : b < B) :
    (w'.cell? ⟨b, o, none⟩ = some (.int .i64 s.kind)) ∧ (w'.cell? ⟨b, o + 1, none⟩ = some (.int .i64 s.int)) ∧ (w'.cell? ⟨b, o + 2, none⟩ = some (.int .u64 (s.uint : Int))) ∧ (w'.cell? ⟨b, o + 3, none⟩ = some (.int .u64 (s.a : Int))) ∧
      (w'.cell? ⟨b, o + 4, none⟩ = some (.int .u64 (s.b : Int))) ∧ (w'.cell? ⟨b, o + 5, none⟩ = some (.slice s.ba s.bn s.bc)) :=
  have g := h.below hb (Nat.le_refl _) hlt
  ⟨g.c0, g.c1, g.c2, g.c3, g.c4, g.c5⟩

set_option maxRecDepth 100000 in
set_option maxHeartbeats 1000000 in
theorem collateS_any (a1 a2 : Option Addr) (n1 n2 c1 c2 : Nat) (xs ys : List Sc) (w : World) (hl1 : xs.length = n1) (hl2 : ys.length = n2) (hn1 : n1 ≤ 2147483647) (hn2 : n2 ≤ 2147483647) (hx : rdL w.heap.size w a1 xs) (hy : rdL w.heap.size w a2 ys) :
    Calls Tryd.prog 16 #[.slice a1 n1 c1, .slice a2 n2 c2] w fun e w' => e = .returned (.int .i64 (colS xs ys)) ∧ Below w.heap.size w w' := by
  have HX := Lib.hid hx
  have HY := Lib.hid hy
  have L1 := Lib.hid hl1
  have L2 := Lib.hid hl2
  clear hx hy hl1 hl2
  by_cases hle : n1 ≤ n2
  all_goals
    go_enter Tryd.func16, Tryd.ntmps16
    go_wp2_with fail
    go_loopw [12] (fun i wr => ∃ k : Nat, k ≤ n1 ∧ k ≤ n2 ∧ i = .int .i64 k ∧ colS (xs.drop k) (ys.drop k) = colS xs ys ∧ Below w.heap.size w wr) (fun i _ => n1 - (intOf i).toNat)
    case atStart => exact ⟨0, Nat.zero_le _, Nat.zero_le _, rfl, rfl, Below.refl _ _⟩
    case round =>
      obtain ⟨k, hk1, hk2, rfl, hcmp, hB⟩ := hrel
      have HC := Lib.hid hcmp
      clear hcmp
      by_cases hlt : k < n1 ∧ k < n2
      · obtain ⟨lt1, lt2⟩ := hlt
        obtain ⟨x, hx⟩ : ∃ x, xs[k]? = some x := ⟨_, List.getElem?_eq_getElem (by rw [L1.out]; omega)⟩
        obtain ⟨y, hy⟩ : ∃ y, ys[k]? = some y := ⟨_, List.getElem?_eq_getElem (by rw [L2.out]; omega)⟩
        rcases HX.out with h0 | ⟨b1, o1, rfl, hb1, hc1⟩
        · subst h0; simp at hx
        rcases HY.out with h0 | ⟨b2, o2, rfl, hb2, hc2⟩
        · subst h0; simp at hy
        have sx := (hc1 k x hx).below hB (Nat.le_refl _) hb1
        have sy := (hc2 k y hy).below hB (Nat.le_refl _) hb2
        have HD := Lib.hid (colS_drop hx hy)
        have hb1' : b1 < wr.heap.size := Nat.lt_of_lt_of_le hb1 hB.size
        have hb2' : b2 < wr.heap.size := Nat.lt_of_lt_of_le hb2 hB.size
        have hf := cmp_any x y
        have SX := Lib.hid sx
        have SY := Lib.hid sy
        have HF := Lib.hid hf
        obtain ⟨c, hcv⟩ : ∃ c, cmpS x y = c := ⟨_, rfl⟩
        have HV := Lib.hid hcv
        clear hcv
        clear hc1 hc2 hx hy sx sy hf HX HY
        go_wp2_with fail
        refine wp_region_quiet (C := fun w' => Below wr.heap.size wr w') (by kernel_rfl) (by kernel_rfl) ⟨rfl, rfl, rfl, Nat.le_refl _, fun _ _ => rfl⟩ ?_
        have cx := fun w' (h : Below wr.heap.size wr w') => six_load (SX.out.mono hB.size) w' h hb1'
        have cy := fun w' (h : Below wr.heap.size wr w') => six_load (SY.out.mono hB.size) w' h hb2'
        simp only []
        refine wpQuiet_val rfl (.slice (some ⟨b1, o1, none⟩) n1 c1) (fun w' hw' => ?_) ?_
        · simp [Oper.quietAt, Oper.quietUpon, go_sem]
        simp only [Act.put, List.setIfInBounds_toArray, List.set_cons_zero, List.set_cons_succ]
        refine wpQuiet_val rfl (.int .i64 (k : Int)) (fun w' hw' => ?_) ?_
        · simp [Oper.quietAt, Oper.quietUpon, go_sem]
        simp only [Act.put, List.setIfInBounds_toArray, List.set_cons_zero, List.set_cons_succ]
        refine wpQuiet_val rfl (.pointer (some ⟨b1, o1 + k * 6, none⟩)) (fun w' hw' => ?_) ?_
        · clear cx cy; go_simp
        simp only [Act.put, List.setIfInBounds_toArray, List.set_cons_zero, List.set_cons_succ]
        refine wpQuiet_val rfl (x.v) (fun w' hw' => ?_) ?_
        · obtain ⟨g0, g1, g2, g3, g4, g5⟩ := cx w' hw'; simp [Oper.quietAt, Oper.quietUpon, go_sem, g0, g1, g2, g3, g4, g5]
        simp only [Act.put, List.setIfInBounds_toArray, List.set_cons_zero, List.set_cons_succ]
        refine wpQuiet_val rfl (.slice (some ⟨b2, o2, none⟩) n2 c2) (fun w' hw' => ?_) ?_
        · simp [Oper.quietAt, Oper.quietUpon, go_sem]
        simp only [Act.put, List.setIfInBounds_toArray, List.set_cons_zero, List.set_cons_succ]
        refine wpQuiet_val rfl (.int .i64 (k : Int)) (fun w' hw' => ?_) ?_
        · simp [Oper.quietAt, Oper.quietUpon, go_sem]
        simp only [Act.put, List.setIfInBounds_toArray, List.set_cons_zero, List.set_cons_succ]
        refine wpQuiet_val rfl (.pointer (some ⟨b2, o2 + k * 6, none⟩)) (fun w' hw' => ?_) ?_
        · clear cx cy; go_simp
        simp only [Act.put, List.setIfInBounds_toArray, List.set_cons_zero, List.set_cons_succ]
        refine wpQuiet_val rfl (y.v) (fun w' hw' => ?_) ?_
        · obtain ⟨g0, g1, g2, g3, g4, g5⟩ := cy w' hw'; simp [Oper.quietAt, Oper.quietUpon, go_sem, g0, g1, g2, g3, g4, g5]
        simp only [Act.put, List.setIfInBounds_toArray, List.set_cons_zero, List.set_cons_succ]
        refine wpQuiet_val rfl (.int .i64 c) (fun w' hw' => ?_) ?_
        · simp only [Oper.quietAt, go_sem]; simp [go_sem]; exact (HF.out w' SX.out.wf SY.out.wf (rdB_mono (SX.out.rd.below hw' hB.size) (Nat.le_trans hB.size hw'.size)) (rdB_mono (SY.out.rd.below hw' hB.size) (Nat.le_trans hB.size hw'.size))).mono fun _ _ ⟨g1, g2⟩ => ⟨g1.trans (ret_i HV.out), hw'.trans (g2.mono hw'.size)⟩
        simp only [Act.put, List.setIfInBounds_toArray, List.set_cons_zero, List.set_cons_succ]
        refine wpQuiet_val rfl (.int .i64 c) (fun w' hw' => ?_) ?_
        · simp [Oper.quietAt, Oper.quietUpon, go_sem]
        simp only [Act.put, List.setIfInBounds_toArray, List.set_cons_zero, List.set_cons_succ]
        refine wpQuiet_nil fun w' hw' => ?_
        clear cx cy SX SY HF
        have HW := hB.trans (hw'.mono hB.size)
        clear hw'
        by_cases h0 : c = 0
        · subst h0
          go_wp2_with fail
          go_roundw
          case rel => exact ⟨k + 1, by omega, by omega, by go_num, by rw [← HC.out, HD.out, HV.out]; simp, HW⟩
          case measure => simp [intOf]; omega
        · have h0' : (c != 0) = true := by rw [bne_iff_ne]; exact h0
          go_wp2_with fail
          go_ret
          exact ⟨ret_i (by rw [← HC.out, HD.out, HV.out]; simp [h0]), HW⟩
      · have he := colS_end (xs := xs.drop k) (ys := ys.drop k) (by
          rcases Nat.lt_or_ge k n1 with h | h
          · exact .inr (List.drop_eq_nil_of_le (by rw [L2.out]; omega))
          · exact .inl (List.drop_eq_nil_of_le (by rw [L1.out]; omega)))
        rw [List.length_drop, List.length_drop, L1.out, L2.out] at he
        have hv : cmpI ((n1 - k : Nat) : Int) ((n2 - k : Nat) : Int) = cmpI (n1 : Int) (n2 : Int) := by unfold cmpI; (repeat' split) <;> omega
        have HE := Lib.hid ((HC.out.symm.trans he).trans hv)
        clear he hv HX HY HC
        have hcc := less_nat n1 n2 (by omega) (by omega)
        rcases hp : nrm false n1 0 with ⟨p1, p2, p3⟩
        rcases hq : nrm false n2 0 with ⟨q1, q2, q3⟩
        have m1 : p2 < 18446744073709551616 := by have := nrm_m false n1 0 (by omega); rw [hp] at this; exact this
        have m2 : q2 < 18446744073709551616 := by have := nrm_m false n2 0 (by omega); rw [hq] at this; exact this
        rw [hp, hq] at hcc
        have HP := Lib.hid hp
        have HQ := Lib.hid hq
        have HCC := Lib.hid hcc
        clear hp hq hcc
        go_wp2_with fail
        refine (normal_any false n1 0 wr (by omega) (by omega) (by omega)).mono ?_
        rw [HP.out]
        rintro e w1 ⟨rfl, hb1⟩
        go_wp2_with fail
        refine (normal_any false n2 0 w1 (by omega) (by omega) (by omega)).mono ?_
        rw [HQ.out]
        rintro e w2 ⟨rfl, hb2⟩
        go_wp2_with fail
        refine (less_any ⟨p1, p2, p3⟩ ⟨q1, q2, q3⟩ w2 m1 m2).mono ?_
        rw [HCC.out, ← HE.out]
        rintro e w3 ⟨rfl, hb3⟩
        go_wp2_with fail
        go_ret
        have B1 := hB.trans (hb1.mono hB.size)
        have B2 := B1.trans (hb2.mono B1.size)
        exact ⟨rfl, B2.trans (hb3.mono B2.size)⟩

end Go.Proofs.YtaoonpncnahhgaaDoor
