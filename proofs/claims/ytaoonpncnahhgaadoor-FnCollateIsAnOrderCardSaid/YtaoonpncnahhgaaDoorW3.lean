/-
  The walk of the reference's parts.
-/
import Derived.Test.YtaoonpncnahhgaaDoorW2
namespace Go.Proofs.YtaoonpncnahhgaaDoor
open Go.RowKit

theorem three_below (w : World) (o p q : Obj) : Below w.heap.size w (((w.alloc o).alloc p).alloc q) := (two_below _ _ _).alloc (by simp; omega) _
theorem below3b {W W1 : World} {o : Obj} {cs ds : Array Value} {s t : TypeId} (h : Below (((W.alloc o).alloc (.cells cs s)).alloc (.cells ds t)).heap.size (((W.alloc o).alloc (.cells cs s)).alloc (.cells ds t)) W1) :
    Below W.heap.size W W1 ∧ W.heap.size + 2 < W1.heap.size ∧ (W1.heap[W.heap.size]? = some o) ∧ ((∀ o, W1.cell? ⟨W.heap.size + 1, o, none⟩ = cs[o]?) ∧ (∀ o, W1.frozen? ⟨W.heap.size + 1, o, none⟩ = false)) ∧
      ((∀ o, W1.cell? ⟨W.heap.size + 1 + 1, o, none⟩ = ds[o]?) ∧ (∀ o, W1.frozen? ⟨W.heap.size + 1 + 1, o, none⟩ = false)) := by
  have h0 := h.size
  simp at h0
  have h1 := heap_new1 (W.alloc o) (.cells cs s) (.cells ds t)
  have h2 := heap_new2 (W.alloc o) (.cells cs s) (.cells ds t)
  have h3 := heap_new W o
  simp only [World.size_alloc] at h1 h2
  refine ⟨(three_below W _ _ _).trans (h.mono (by simp; omega)), by omega, ?_, cells_at ((h.block _ (by simp)).trans h1), cells_at ((h.block _ (by simp)).trans h2)⟩
  rw [h.block _ (by simp; omega), Below.heap_alloc _ _ _ (by simp; omega), Below.heap_alloc _ _ _ (by simp), h3]

theorem wrap_neg2 (i : Int) (h0 : -9223372036854775808 ≤ i) (h : i < 0) : IntKind.u64.wrap (-IntKind.u64.wrap i) = ((i.natAbs : Nat) : Int) := by
  rw [IntKind.wrap_u64, IntKind.wrap_u64]; omega

theorem parts_neg (k i : Int) (n : Nat) (u a b : Nat) (ba : Option Addr) (bn bc : Nat) (w : World) (hk : k < 7) (hi : i < 0) (hr : IntKind.u64.wrap (-IntKind.u64.wrap i) = (n : Int)) (hn : n < 18446744073709551616) :
    Calls Tryd.prog 29 #[.agg #[.int .i64 k, .int .i64 i, .int .u64 (u : Int), .int .u64 (a : Int), .int .u64 (b : Int), .slice ba bn bc]] w fun e w' =>
      e = .returned (.tuple #[(nrm true n 0).v, numV false 0 0, .bool true]) ∧ Below w.heap.size w w' := by
  go_enter Tryd.func29, Tryd.ntmps29
  go_wp2_with (go_at_call 27; refine (normal_any true n 0 _ hn (by omega) (by omega)).mono ?_; rintro e w1 ⟨rfl, hb⟩; obtain ⟨hB, hz, -, ⟨hc, hf⟩, ⟨hc2, hf2⟩⟩ := below3b hb; clear hb)
  exact bodyPost_ret (v := .tuple #[(nrm true n 0).v, numV false 0 0, .bool true]) (by simp [results, Tryd.results29, go_sem, hc, hc2]) rfl
    ⟨rfl, (((((hB.setCell (by simp) _).setCell (by simp) _).setCell (by simp) _).setCell (by simp; omega) _).setCell (by simp; omega) _).setCell (by simp; omega) _⟩

theorem parts_pos (k : Int) (n : Nat) (u a b : Nat) (ba : Option Addr) (bn bc : Nat) (w : World) (hk : k < 7) (hn : n < 9223372036854775808) :
    Calls Tryd.prog 29 #[.agg #[.int .i64 k, .int .i64 (n : Int), .int .u64 (u : Int), .int .u64 (a : Int), .int .u64 (b : Int), .slice ba bn bc]] w fun e w' =>
      e = .returned (.tuple #[(nrm false n 0).v, numV false 0 0, .bool true]) ∧ Below w.heap.size w w' := by
  go_enter Tryd.func29, Tryd.ntmps29
  go_wp2_with (go_at_call 27; refine (normal_any false n 0 _ (by omega) (by omega) (by omega)).mono ?_; rintro e w1 ⟨rfl, hb⟩; obtain ⟨hB, hz, -, ⟨hc, hf⟩, ⟨hc2, hf2⟩⟩ := below3b hb; clear hb)
  exact bodyPost_ret (v := .tuple #[(nrm false n 0).v, numV false 0 0, .bool true]) (by simp [results, Tryd.results29, go_sem, hc, hc2]) rfl
    ⟨rfl, (((((hB.setCell (by simp) _).setCell (by simp) _).setCell (by simp) _).setCell (by simp; omega) _).setCell (by simp; omega) _).setCell (by simp; omega) _⟩

theorem parts_uint (k i : Int) (u a b : Nat) (ba : Option Addr) (bn bc : Nat) (w : World) (hk : 7 ≤ k) (hk2 : k < 12) (hn : u < 18446744073709551616) :
    Calls Tryd.prog 29 #[.agg #[.int .i64 k, .int .i64 i, .int .u64 (u : Int), .int .u64 (a : Int), .int .u64 (b : Int), .slice ba bn bc]] w fun e w' =>
      e = .returned (.tuple #[(nrm false u 0).v, numV false 0 0, .bool true]) ∧ Below w.heap.size w w' := by
  go_enter Tryd.func29, Tryd.ntmps29
  go_wp2_with (go_at_call 27; refine (normal_any false u 0 _ hn (by omega) (by omega)).mono ?_; rintro e w1 ⟨rfl, hb⟩; obtain ⟨hB, hz, -, ⟨hc, hf⟩, ⟨hc2, hf2⟩⟩ := below3b hb; clear hb)
  exact bodyPost_ret (v := .tuple #[(nrm false u 0).v, numV false 0 0, .bool true]) (by simp [results, Tryd.results29, go_sem, hc, hc2]) rfl
    ⟨rfl, (((((hB.setCell (by simp) _).setCell (by simp) _).setCell (by simp) _).setCell (by simp; omega) _).setCell (by simp; omega) _).setCell (by simp; omega) _⟩

/-- three cells of a block, written one behind the other -/
theorem set3_at {W : World} {g : Nat} {x0 x1 x2 : Value} {t : TypeId} (h : W.heap[g]? = some (.cells #[x0, x1, x2] t (0, 0))) (y0 y1 y2 : Value) :
    (((W.setCell ⟨g, 0, none⟩ y0).setCell ⟨g, 1, none⟩ y1).setCell ⟨g, 2, none⟩ y2).heap[g]? = some (.cells #[y0, y1, y2] t (0, 0)) := by
  simp [World.setCell, Array.getElem?_modify, h]
theorem set3_other {W : World} {g k : Nat} (hk : k ≠ g) (y0 y1 y2 : Value) :
    (((W.setCell ⟨g, 0, none⟩ y0).setCell ⟨g, 1, none⟩ y1).setCell ⟨g, 2, none⟩ y2).heap[k]? = W.heap[k]? := by
  rw [Below.heap_setCell _ _ _ _ hk, Below.heap_setCell _ _ _ _ hk, Below.heap_setCell _ _ _ _ hk]
theorem set3_below {w W : World} {B g : Nat} (h : Below B w W) (hg : B ≤ g) (y0 y1 y2 : Value) :
    Below B w (((W.setCell ⟨g, 0, none⟩ y0).setCell ⟨g, 1, none⟩ y1).setCell ⟨g, 2, none⟩ y2) := ((h.setCell hg _).setCell hg _).setCell hg _

theorem parts_real_core (k i : Int) (u a b : Nat) (ba : Option Addr) (bn bc : Nat) (w : World) (hk : 12 ≤ k) (hk2 : k < 14) (zn zb : Bool) (zm : Nat) (ze : Int)
    (H : Hid (∀ w : World, Calls Tryd.prog 41 #[.int .u64 (a : Int)] w fun e w' => e = .returned (.tuple #[numV zn zm ze, .bool zb]) ∧ Below w.heap.size w w')) :
    Calls Tryd.prog 29 #[.agg #[.int .i64 k, .int .i64 i, .int .u64 (u : Int), .int .u64 (a : Int), .int .u64 (b : Int), .slice ba bn bc]] w fun e w' =>
      e = .returned (.tuple #[numV zn zm ze, numV false 0 0, .bool zb]) ∧ Below w.heap.size w w' := by
  go_enter Tryd.func29, Tryd.ntmps29
  go_wp2_with (go_at_call 41; refine (H.out _).mono ?_; rintro e w1 ⟨rfl, hb⟩; obtain ⟨hB, hz, hbox, ⟨hc, hf⟩, ⟨hc2, hf2⟩⟩ := below3b hb; obtain ⟨hc0, hf0⟩ := cells_at hbox)
  have q1 : w1.heap[w.heap.size + 1]? = some zeroBox := (hb.block _ (by simp)).trans (by simpa using heap_new1 (w.alloc _) zeroBox zeroBox)
  have q2 : w1.heap[w.heap.size + 1 + 1]? = some zeroBox := (hb.block _ (by simp)).trans (by simpa using heap_new2 (w.alloc _) zeroBox zeroBox)
  have r1 := set3_at q1 (.bool zn) (.int .u64 (zm : Int)) (.int .i64 ze)
  have r2 := (set3_other (W := w1) (g := w.heap.size + 1) (k := w.heap.size + 1 + 1) (by omega) (.bool zn) (.int .u64 (zm : Int)) (.int .i64 ze)).trans q2
  have r3 := set3_below hB (g := w.heap.size + 1) (by omega) (.bool zn) (.int .u64 (zm : Int)) (.int .i64 ze)
  clear hc hf hc2 hf2 hc0 hf0 hbox hb hB hz q1 q2
  generalize (((w1.setCell ⟨w.heap.size + 1, 0, none⟩ (.bool zn)).setCell ⟨w.heap.size + 1, 1, none⟩ (.int .u64 (zm : Int))).setCell ⟨w.heap.size + 1, 2, none⟩ (.int .i64 ze)) = W2 at *
  obtain ⟨c1, f1⟩ := cells_at r1
  obtain ⟨c2, f2⟩ := cells_at r2
  clear r1 r2
  go_region
  all_goals
    go_wp2_with fail
    exact bodyPost_ret (v := .tuple #[numV zn zm ze, numV false 0 0, .bool zb]) (by simp [results, Tryd.results29, go_sem, c1, c2]) rfl
      ⟨rfl, (((((((r3.setCell (by simp) _).setCell (by simp) _).setCell (by simp) _).setCell (by simp; omega) _).setCell (by simp; omega) _).setCell (by simp; omega) _)).drew⟩

theorem parts_complex_core (k i : Int) (u a b : Nat) (ba : Option Addr) (bn bc : Nat) (w : World) (hk : 14 ≤ k) (zn zb yn yb : Bool) (zm ym : Nat) (ze ye : Int)
    (H : Hid (∀ w : World, Calls Tryd.prog 41 #[.int .u64 (a : Int)] w fun e w' => e = .returned (.tuple #[numV zn zm ze, .bool zb]) ∧ Below w.heap.size w w'))
    (G : Hid (∀ w : World, Calls Tryd.prog 41 #[.int .u64 (b : Int)] w fun e w' => e = .returned (.tuple #[numV yn ym ye, .bool yb]) ∧ Below w.heap.size w w')) :
    Calls Tryd.prog 29 #[.agg #[.int .i64 k, .int .i64 i, .int .u64 (u : Int), .int .u64 (a : Int), .int .u64 (b : Int), .slice ba bn bc]] w fun e w' =>
      e = .returned (.tuple #[numV zn zm ze, numV yn ym ye, .bool (zb && yb)]) ∧ Below w.heap.size w w' := by
  go_enter Tryd.func29, Tryd.ntmps29
  go_wp2_with fail
  refine (H.out _).mono ?_
  rintro e w1 ⟨rfl, hb⟩
  obtain ⟨hB, hz, hbox, ⟨hc, hf⟩, ⟨hc2, hf2⟩⟩ := below3b hb
  obtain ⟨hc0, hf0⟩ := cells_at hbox
  go_wp2_with fail
  have q1 : w1.heap[w.heap.size + 1]? = some zeroBox := (hb.block _ (by simp)).trans (by simpa using heap_new1 (w.alloc _) zeroBox zeroBox)
  have q2 : w1.heap[w.heap.size + 1 + 1]? = some zeroBox := (hb.block _ (by simp)).trans (by simpa using heap_new2 (w.alloc _) zeroBox zeroBox)
  have r1 := set3_at q1 (.bool zn) (.int .u64 (zm : Int)) (.int .i64 ze)
  have r2 := (set3_other (W := w1) (g := w.heap.size + 1) (k := w.heap.size + 1 + 1) (by omega) (.bool zn) (.int .u64 (zm : Int)) (.int .i64 ze)).trans q2
  have r3 := set3_below hB (g := w.heap.size + 1) (by omega) (.bool zn) (.int .u64 (zm : Int)) (.int .i64 ze)
  have rz : w.heap.size + 2 < ((((w1.setCell ⟨w.heap.size + 1, 0, none⟩ (.bool zn)).setCell ⟨w.heap.size + 1, 1, none⟩ (.int .u64 (zm : Int))).setCell ⟨w.heap.size + 1, 2, none⟩ (.int .i64 ze))).heap.size := by
    simpa [World.setCell] using hz
  clear hc hf hc2 hf2 hc0 hf0 hbox hb hB hz q1 q2
  generalize (((w1.setCell ⟨w.heap.size + 1, 0, none⟩ (.bool zn)).setCell ⟨w.heap.size + 1, 1, none⟩ (.int .u64 (zm : Int))).setCell ⟨w.heap.size + 1, 2, none⟩ (.int .i64 ze)) = W2 at *
  refine (G.out _).mono ?_
  rintro e w3 ⟨rfl, hb3⟩
  have p1 := (hb3.block _ (by omega)).trans r1
  have p2 := (hb3.block _ (by omega)).trans r2
  have p3 := r3.trans (hb3.mono (Nat.le_trans (by omega) (Nat.le_of_lt rz)))
  clear r1 r2 r3 hb3 rz H G
  obtain ⟨c2, f2⟩ := cells_at p2
  cases zb
  all_goals
    go_wp2_with fail
    have r1 := (set3_other (W := w3) (g := w.heap.size + 1 + 1) (k := w.heap.size + 1) (by omega) (.bool yn) (.int .u64 (ym : Int)) (.int .i64 ye)).trans p1
    have r2 := set3_at p2 (.bool yn) (.int .u64 (ym : Int)) (.int .i64 ye)
    have r3 := set3_below p3 (g := w.heap.size + 1 + 1) (by omega) (.bool yn) (.int .u64 (ym : Int)) (.int .i64 ye)
    clear c2 f2 p1 p2 p3
    generalize (((w3.setCell ⟨w.heap.size + 1 + 1, 0, none⟩ (.bool yn)).setCell ⟨w.heap.size + 1 + 1, 1, none⟩ (.int .u64 (ym : Int))).setCell ⟨w.heap.size + 1 + 1, 2, none⟩ (.int .i64 ye)) = W4 at *
    obtain ⟨c1, f1⟩ := cells_at r1
    obtain ⟨c2, f2⟩ := cells_at r2
    clear r1 r2
    go_region
    go_wp2_with fail
    exact bodyPost_ret (v := .tuple #[numV zn zm ze, numV yn ym ye, .bool (_ && yb)]) (by simp [results, Tryd.results29, go_sem, c1, c2]) rfl
      ⟨rfl, (((((((r3.setCell (by simp) _).setCell (by simp) _).setCell (by simp) _).setCell (by simp; omega) _).setCell (by simp; omega) _).setCell (by simp; omega) _)).drew⟩

theorem parts_any (s : Sc) (h : s.wf) (w : World) :
    Calls Tryd.prog 29 #[s.v] w fun e w' => e = .returned (.tuple #[(parts s).1.v, (parts s).2.1.v, .bool (parts s).2.2]) ∧ Below w.heap.size w w' := by
  obtain ⟨k, i, u, a, b, ba, bn, bc, bs⟩ := s
  obtain ⟨k0, k1, i0, i1, u1, a1, b1, n1, c1, nc, len⟩ := h
  simp only at *
  unfold parts
  by_cases h7 : k < 7
  · simp only [if_pos h7]
    by_cases hi : i < 0
    · have := parts_neg k i i.natAbs u a b ba bn bc w h7 hi (wrap_neg2 i i0 hi) (by omega)
      simpa [hi] using this
    · obtain ⟨n, rfl⟩ := Int.eq_ofNat_of_zero_le (by omega : 0 ≤ i)
      have := parts_pos k n u a b ba bn bc w h7 (by omega)
      simpa [hi] using this
  · simp only [if_neg h7]
    by_cases h12 : k < 12
    · simp only [if_pos h12]
      exact parts_uint k i u a b ba bn bc w (by omega) h12 u1
    · simp only [if_neg h12]
      by_cases h14 : 14 ≤ k
      · simp only [if_pos h14]
        exact parts_complex_core k i u a b ba bn bc w h14 _ _ _ _ _ _ _ _ (Lib.hid (fun w => flt_any a w a1)) (Lib.hid (fun w => flt_any b w b1))
      · simp only [if_neg h14]
        exact parts_real_core k i u a b ba bn bc w (by omega) (by omega) _ _ _ _ (Lib.hid (fun w => flt_any a w a1))

end Go.Proofs.YtaoonpncnahhgaaDoor
