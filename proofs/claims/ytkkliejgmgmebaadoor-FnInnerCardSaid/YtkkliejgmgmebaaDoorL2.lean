/-
  laws.memory.
-/
import Derived.Test.YtkkliejgmgmebaaDoorL1
namespace Go.Proofs.YtkkliejgmgmebaaDoor
open Go.RowKit

theorem memB_seven (a : Option Addr) (c : Nat) : memB [] [⟨0, 0, 0, a, 1, c, [7]⟩] = [7] := by
  simp [memB, mstep, wrB, splice]

set_option maxRecDepth 100000 in
set_option maxHeartbeats 4000000 in
theorem memory_any (w : World) (va vb : Addr) (hV : Vars (Old w) w va vb) : Calls Tryd.prog 13 #[] w fun e w' => e = .returned (.bool true) ∧ Below w.heap.size w w' := by
  have HV := Lib.hid hV
  clear hV
  go_enter Tryd.func13, Tryd.ntmps13
  (repeat (first | go_values | go_skip | go_guarded | go_step | go_upon))
  have hk : Keeps (Old w) w ((w.alloc (.cells #[.int .u8 7] 5)).alloc (.cells #[.int .i64 0, .int .i64 0, .int .i64 0, .slice (some ⟨w.heap.size, 0, none⟩) 1 1] 47)) :=
    (Keeps.alloc (fun _ h => h) _).trans (Keeps.alloc (fun k (h : k < w.heap.size) => by simp; omega) _)
  have hb : ((w.alloc (.cells #[.int .u8 7] 5)).alloc (.cells #[.int .i64 0, .int .i64 0, .int .i64 0, .slice (some ⟨w.heap.size, 0, none⟩) 1 1] 47)).heap[w.heap.size]? = _ := heap_alloc2_old _ _ _
  have hb2 : ((w.alloc (.cells #[.int .u8 7] 5)).alloc (.cells #[.int .i64 0, .int .i64 0, .int .i64 0, .slice (some ⟨w.heap.size, 0, none⟩) 1 1] 47)).heap[w.heap.size + 1]? = _ := heap_alloc2_new _ _ _
  have hs : ((w.alloc (.cells #[.int .u8 7] 5)).alloc (.cells #[.int .i64 0, .int .i64 0, .int .i64 0, .slice (some ⟨w.heap.size, 0, none⟩) 1 1] 47)).heap.size = w.heap.size + 2 := by simp
  generalize ((w.alloc (.cells #[.int .u8 7] 5)).alloc (.cells #[.int .i64 0, .int .i64 0, .int .i64 0, .slice (some ⟨w.heap.size, 0, none⟩) 1 1] 47)) = W2 at *
  have hold : ∀ k, k < w.heap.size → k < W2.heap.size := fun k h => by omega
  have hrd : rdO (Old W2) W2 (some ⟨w.heap.size + 1, 0, none⟩) [⟨0, 0, 0, some ⟨w.heap.size, 0, none⟩, 1, 1, [7]⟩] := by
    refine .inr ⟨w.heap.size + 1, 0, rfl, show w.heap.size + 1 < W2.heap.size by omega, fun i x hx => ?_⟩
    have hi : i = 0 := by
      have := (List.getElem?_eq_some_iff.1 hx).1
      simpa using this
    subst hi
    simp only [List.getElem?_cons_zero, Option.some.injEq] at hx
    subst hx
    obtain ⟨b0, -⟩ := cells_at hb2
    obtain ⟨b1, -⟩ := cells_at hb
    refine ⟨b0 0, b0 1, b0 2, b0 3, Nat.le_refl _, (by decide : (1 : Nat) ≤ 9223372036854775807), rfl, .inr ⟨w.heap.size, 0, rfl, show w.heap.size < W2.heap.size by omega, fun j y hy => ?_⟩⟩
    have hj : j = 0 := by
      have := (List.getElem?_eq_some_iff.1 hy).1
      simpa using this
    subst hj
    simp only [List.getElem?_cons_zero, Option.some.injEq] at hy
    subst hy
    exact b1 0
  have hc := memFile_any W2 [] [⟨0, 0, 0, some ⟨w.heap.size, 0, none⟩, 1, 1, [7]⟩] none 0 0 (some ⟨w.heap.size + 1, 0, none⟩) 1 1 va vb ⟨rfl, .inl rfl⟩ rfl (by omega) (Nat.le_refl _) hrd ((HV.out.keeps hk).mono hold) (fun o ho => by
    rw [List.mem_singleton] at ho
    subst ho
    exact ⟨0, (show fitsB 0 0 0 0 1 = true by decide)⟩) (by simp)
  refine hc.mono ?_
  rintro e w3 hp
  obtain ⟨a1, c1, a2, c2, R, rfl, -, -, hrd2, hbl, -, hc2⟩ := hp
  rw [memB_seven] at hrd2 hc2
  rcases hrd2.2 with h0 | ⟨b, o, rfl, -, hcell⟩
  · cases h0
  have x0 := hcell 0 7 rfl
  have HB := Lib.hid ((hk.below (B := w.heap.size) fun _ h => h).trans (hbl.mono (by omega)))
  have hl : (memB [] [⟨0, 0, 0, some ⟨w.heap.size, 0, none⟩, 1, 1, [7]⟩]).length = 1 := by rw [memB_seven]; rfl
  rw [hl]
  simp only [List.length_cons, List.length_nil, Nat.zero_add] at hc2 ⊢
  have x0' : w3.cell? ⟨b, o, none⟩ = some (.int .u8 7) := x0
  clear hc hrd hb hb2 hs hk hold hrd2 hbl hcell hl x0
  (repeat (first | go_values | go_skip | go_guarded | go_step | go_upon))
  go_ret
  exact ⟨rfl, HB.out⟩

end Go.Proofs.YtkkliejgmgmebaaDoor
