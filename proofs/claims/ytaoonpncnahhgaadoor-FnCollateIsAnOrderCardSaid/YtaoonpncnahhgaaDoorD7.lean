/-
  wakes.
-/
import Derived.Test.YtaoonpncnahhgaaDoorD4
import Derived.Test.YtaoonpncnahhgaaDoorD6
namespace Go.Proofs.YtaoonpncnahhgaaDoor
open Go.RowKit

theorem avS_i64 {s : Sc} {n : Int} (h : OkFacts s) (e : avS s = .i64 n) : s.int = n := by
  obtain ⟨kd, it, u, fa, fb, ba, bn, bc, bs⟩ := s
  have h0 := h.k0
  have h1 := h.k1
  simp only at h0 h1
  obtain rfl | rfl | rfl | rfl | rfl | rfl | rfl | rfl | rfl | rfl | rfl | rfl | rfl | rfl | rfl | rfl | rfl | rfl : kd = 0 ∨ kd = 1 ∨ kd = 2 ∨ kd = 3 ∨ kd = 4 ∨ kd = 5 ∨ kd = 6 ∨ kd = 7 ∨ kd = 8 ∨ kd = 9 ∨ kd = 10 ∨ kd = 11 ∨ kd = 12 ∨ kd = 13 ∨ kd = 14 ∨ kd = 15 ∨ kd = 16 ∨ kd = 17 := by omega
  all_goals first | cases e; done | (cases e; rfl)

abbrev s7 : Sc := ⟨6, 7, 0, 0, 0, none, 0, 0, []⟩

/-- the bytes of a small number -/
def enc7 : AV → List UInt8 := fun _ => [92]

theorem rd7 (w : World) : rdL (w.alloc (.cells #[.int .i64 6, .int .i64 7, .int .u64 0, .int .u64 0, .int .u64 0, .slice none 0 0] 34)).heap.size (w.alloc (.cells #[.int .i64 6, .int .i64 7, .int .u64 0, .int .u64 0, .int .u64 0, .slice none 0 0] 34)) (some ⟨w.heap.size, 0, none⟩) [s7] := by
  have hc := (cells_at (heap_new w (.cells #[.int .i64 6, .int .i64 7, .int .u64 0, .int .u64 0, .int .u64 0, .slice none 0 0] 34))).1
  refine .inr ⟨w.heap.size, 0, rfl, by simp, fun i s hs => ?_⟩
  cases i with
  | succ i => simp at hs
  | zero =>
    simp only [List.getElem?_cons_zero, Option.some.injEq] at hs
    subst hs
    exact ⟨(ok_i64 7 (by omega) (by omega)).2.1, hc 0, hc 1, hc 2, hc 3, hc 4, hc 5, rfl, .inl rfl⟩

set_option maxRecDepth 100000 in
set_option maxHeartbeats 1000000 in
theorem wakes_any (w : World) : Calls Tryd.prog 13 #[] w fun e w' => e = .returned (.bool true) ∧ Below w.heap.size w w' := by
  have hk := ok_i64 7 (by omega) (by omega)
  have h1 := fun c => implEncode_any (some ⟨w.heap.size, 0, none⟩) 1 c [s7] enc7 (w.alloc (.cells #[.int .i64 6, .int .i64 7, .int .u64 0, .int .u64 0, .int .u64 0, .slice none 0 0] 34)) rfl (by omega) (rd7 w) (fun s hs => by
      rw [List.mem_singleton] at hs; subst hs; exact ⟨hk.2.1, hk.2.2, by simp⟩)
      (fun x hx => by
        simp only [List.map_cons, List.map_nil, List.mem_singleton] at hx
        subst hx
        exact round20_small 7 (by omega) (by omega)) [92] rfl (by simp)
  have h2 := fun (a : Option Addr) (c : Nat) (W : World) (hr : rdB W.heap.size W a 1 [92]) => decode_of a 1 c [92] [.i64 7] 1 rfl (by omega) W (clone_any a c [92] W (by simp) hr)
      (fun a' c' W' hc1 hc2 hr' => decs_any a' c' [([92], .i64 7)] [92] rfl W' (by simp) hc1 hc2 (by simp) (by simp) hr'.1 (fun p hp => by
        rw [List.mem_singleton] at hp; subst hp; exact ⟨round23_small 92 (by decide), by simp⟩))
      (fun y hy => by rw [List.mem_singleton] at hy; subst hy; exact scal_i64 7 (by omega) (by omega))
  have H1 := Lib.hid h1
  have H2 := Lib.hid h2
  clear h1 h2 hk
  go_enter Tryd.func13, Tryd.ntmps13
  (repeat (first | go_values | go_skip | go_guarded | go_step | go_upon))
  refine (H1.out _).mono ?_
  rintro e w1 ⟨b1, d1, rfl, r1, hb1⟩
  have B1 := (below1 w (.cells #[.int .i64 6, .int .i64 7, .int .u64 0, .int .u64 0, .int .u64 0, .slice none 0 0] 34)).trans (hb1.mono (by simp))
  have R1 := Lib.hid r1
  clear r1 hb1
  dsimp only [List.length_cons, List.length_nil, Nat.zero_add]
  (repeat (first | go_values | go_skip | go_guarded | go_step | go_upon))
  refine (H2.out b1 d1 w1 R1.out).mono ?_
  rintro e w2 ⟨b2, d2, ss, rfl, hss, hsc, hr, hb2⟩
  have B2 := B1.trans (hb2.mono B1.size)
  obtain ⟨s, rfl⟩ := List.length_eq_one_iff.1 (show ss.length = 1 by have := congrArg List.length hss; simpa using this)
  have hs7 : s.int = 7 := avS_i64 (hsc s (List.mem_singleton.2 rfl)).2.1 (List.head_eq_of_cons_eq hss)
  rcases hr with h0 | ⟨b, o, rfl, hb, hc⟩
  · cases h0
  have e1 := (hc 0 s rfl).c1
  rw [hs7] at e1
  simp only [Nat.zero_mul, Nat.add_zero] at e1
  clear hc hsc R1 H1 H2 hss
  dsimp only
  (repeat (first | go_values | go_skip | go_guarded | go_step | go_upon))
  go_ret
  exact ⟨rfl, B2⟩

end Go.Proofs.YtaoonpncnahhgaaDoor
