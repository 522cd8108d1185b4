/-
  The walk of laws.FnCollate.
-/
import Derived.Test.YtaoonpncnahhgaaDoorDb
import Derived.Test.YtaoonpncnahhgaaDoorKk
namespace Go.Proofs.YtaoonpncnahhgaaDoor
open Go.RowKit

theorem rdL_wf {B : Nat} {w : World} {a : Option Addr} {L : List Sc} (h : rdL B w a L) : ∀ s ∈ L, s.wf := by
  intro s hs
  obtain ⟨i, hi⟩ := List.getElem?_of_mem hs
  rcases h with h0 | ⟨b, o, -, -, hc⟩
  · subst h0; cases hs
  · exact (hc i s hi).wf

/-- a list of scalars that came in, in a later world -/
structure In (w : World) (a : Option Addr) (n : Nat) (L : List Sc) : Prop where
  hl : L.length = n
  hn : n ≤ 9223372036854775807
  rd : rdL w.heap.size w a L

theorem In.at {w W : World} {a : Option Addr} {n : Nat} {L : List Sc} (h : In w a n L) (hb : Below w.heap.size w W) : In W a n L :=
  ⟨h.hl, h.hn, (h.rd.below hb (Nat.le_refl _)).mono hb.size⟩

theorem In.fits {w : World} {a : Option Addr} {n : Nat} {L : List Sc} (h : In w a n L) (c : Nat) :
    Calls Tryd.prog 7 #[.slice a n c] w fun e w' => e = .returned (.bool (fitsB L)) ∧ Below w.heap.size w w' := fits5_any a n c L w h.hl h.hn h.rd

theorem fitsB_n {L : List Sc} (h : fitsB L = true) : L.length ≤ 2147483647 ∧ ∀ s ∈ L, s.bn ≤ 2147483647 := by
  unfold fitsB at h
  simp only [Bool.and_eq_true, decide_eq_true_eq, List.all_eq_true] at h
  exact h

theorem In.scalars {w : World} {a : Option Addr} {n : Nat} {L : List Sc} (h : In w a n L) (hf : fitsB L = true) (c : Nat) :
    Calls Tryd.prog 8 #[.slice a n c] w (ScPost L w) := scalars_any a n c L w h.hl (by have := (fitsB_n hf).1; have := h.hl; omega) (fitsB_n hf).2 h.rd

/-- a list that is let in -/
theorem In.ok {w : World} {a : Option Addr} {n : Nat} {L : List Sc} (h : In w a n L) (hf : fitsB L = true) (ho : okB L = true) : ∀ s ∈ L, s.wf ∧ OkFacts s ∧ s.bn ≤ 2147483647 := fun s hs =>
  have g := fit_of (rdL_wf h.rd) ho s hs
  ⟨g.wf, g.ok, (fitsB_n hf).2 s hs⟩

theorem In.fit {w : World} {a : Option Addr} {n : Nat} {L : List Sc} (h : In w a n L) (ho : okB L = true) : ∀ s ∈ L, Fit s := fit_of (rdL_wf h.rd) ho

theorem In.collate {w : World} {a1 a2 : Option Addr} {n1 n2 : Nat} {L1 L2 : List Sc} (h1 : In w a1 n1 L1) (h2 : In w a2 n2 L2) (f1 : fitsB L1 = true) (f2 : fitsB L2 = true) (o1 : okB L1 = true) (o2 : okB L2 = true) (hp : Plains L1 L2) (c1 c2 : Nat) :
    Calls Tryd.prog 15 #[.slice a1 n1 c1, .slice a2 n2 c2] w fun e w' => e = .returned (.tuple #[.int .i64 (colS L1 L2), .int .i64 0]) ∧ Below w.heap.size w w' := by
  have h := implCollate_any a1 a2 n1 n2 c1 c2 L1 L2 w h1.hl h2.hl (by have := (fitsB_n f1).1; have := h1.hl; omega) (by have := (fitsB_n f2).1; have := h2.hl; omega) h1.rd h2.rd (h1.ok f1 o1) (h2.ok f2 o2)
  rw [col_link (h1.fit o1) (h2.fit o2) hp] at h
  exact h

/-- lists in a slice that was built -/
theorem rdLL_two {w : World} {a1 a2 : Option Addr} {n1 n2 c1 c2 : Nat} {L1 L2 : List Sc} (h1 : In w a1 n1 L1) (h2 : In w a2 n2 L2) (f1 : fitsB L1 = true) (f2 : fitsB L2 = true) :
    rdLL (w.alloc (.cells #[.slice a1 n1 c1, .slice a2 n2 c2] 22)).heap.size (w.alloc (.cells #[.slice a1 n1 c1, .slice a2 n2 c2] 22)) (some ⟨w.heap.size, 0, none⟩) [L1, L2] := by
  have hc := (cells_at (heap_new w (.cells #[.slice a1 n1 c1, .slice a2 n2 c2] 22))).1
  have g1 := h1.at (below1 w (.cells #[.slice a1 n1 c1, .slice a2 n2 c2] 22))
  have g2 := h2.at (below1 w (.cells #[.slice a1 n1 c1, .slice a2 n2 c2] 22))
  refine .inr ⟨w.heap.size, 0, rfl, by simp, fun i L hL => ?_⟩
  match i with
  | 0 => cases hL; exact ⟨a1, n1, c1, hc 0, h1.hl, by have := (fitsB_n f1).1; have := h1.hl; omega, g1.rd⟩
  | 1 => cases hL; exact ⟨a2, n2, c2, hc 1, h2.hl, by have := (fitsB_n f2).1; have := h2.hl; omega, g2.rd⟩
  | i + 2 => simp at hL

set_option maxRecDepth 100000 in
set_option maxHeartbeats 2000000 in
theorem law4 (a1 a2 : Option Addr) (n1 n2 c1 c2 : Nat) (L1 L2 : List Sc) (w : World) (h1 : In w a1 n1 L1) (h2 : In w a2 n2 L2) :
    Calls Tryd.prog 4 #[.slice a1 n1 c1, .slice a2 n2 c2] w fun e w' => e = .returned (.bool true) ∧ Below w.heap.size w w' := by
  have H1 := Lib.hid h1
  have H2 := Lib.hid h2
  clear h1 h2
  go_enter Tryd.func4, Tryd.ntmps4
  (repeat (first | go_values | go_skip | go_guarded | go_step | go_upon))
  refine (H1.out.fits c1).mono ?_
  rintro e w1 ⟨rfl, B1⟩
  cases hf1 : fitsB L1
  · dsimp only
    (repeat (first | go_values | go_skip | go_guarded | go_step | go_upon))
    go_ret
    exact ⟨rfl, B1⟩
  have F1 := Lib.hid hf1
  clear hf1
  dsimp only
  (repeat (first | go_values | go_skip | go_guarded | go_step | go_upon))
  refine ((H2.out.at B1).fits c2).mono ?_
  rintro e w2 ⟨rfl, b2⟩
  have B2 := B1.trans (b2.mono B1.size)
  cases hf2 : fitsB L2
  · dsimp only
    (repeat (first | go_values | go_skip | go_guarded | go_step | go_upon))
    go_ret
    exact ⟨rfl, B2⟩
  have F2 := Lib.hid hf2
  clear hf2 b2 B1
  dsimp only
  (repeat (first | go_values | go_skip | go_guarded | go_step | go_upon))
  refine ((H1.out.at B2).scalars F1.out c1).mono ?_
  rintro e w3 ⟨v3, rfl, b3, r3⟩
  have B3 := B2.trans (b3.mono B2.size)
  have R3 := Lib.hid r3
  clear r3 b3 B2
  dsimp only
  (repeat (first | go_values | go_skip | go_guarded | go_step | go_upon))
  refine ((H2.out.at B3).scalars F2.out c2).mono ?_
  rintro e w4 ⟨v4, rfl, b4, r4⟩
  have B4 := B3.trans (b4.mono B3.size)
  have R4 := Lib.hid r4
  have BB4 := Lib.hid b4
  clear r4 b4 B3
  cases ho1 : okB L1
  · dsimp only
    (repeat (first | go_values | go_skip | go_guarded | go_step | go_upon))
    go_ret
    exact ⟨rfl, B4⟩
  cases ho2 : okB L2
  · dsimp only
    (repeat (first | go_values | go_skip | go_guarded | go_step | go_upon))
    go_ret
    exact ⟨rfl, B4⟩
  obtain ⟨b1, d1, rfl, q1⟩ := R3.out ho1
  obtain ⟨b2, d2, rfl, q2⟩ := R4.out ho2
  have I1 : In w4 b1 L1.length L1 := In.at ⟨rfl, by have := (fitsB_n F1.out).1; omega, q1⟩ BB4.out
  have I2 : In w4 b2 L2.length L2 := ⟨rfl, by have := (fitsB_n F2.out).1; omega, q2⟩
  have hl1 := (fitsB_n F1.out).1
  have hl2 := (fitsB_n F2.out).1
  have O1 := Lib.hid ho1
  have O2 := Lib.hid ho2
  have J1 := Lib.hid I1
  have J2 := Lib.hid I2
  clear ho1 ho2 q1 q2 R3 R4 BB4 I1 I2
  generalize hm1 : L1.length = m1 at *
  generalize hm2 : L2.length = m2 at *
  have M1 := Lib.hid hm1
  have M2 := Lib.hid hm2
  clear hm1 hm2
  dsimp only
  (repeat (first | go_values | go_skip | go_guarded | go_step | go_upon))
  refine (mixed_any _ 2 _ [L1, L2] _ rfl (by omega) (rdLL_two (H1.out.at B4) (H2.out.at B4) F1.out F2.out)).mono ?_
  rintro e w5 ⟨rfl, b5⟩
  have A5 := (below1 w4 (.cells #[.slice a1 n1 c1, .slice a2 n2 c2] 22)).trans (b5.mono (by simp))
  have B5 := B4.trans (A5.mono B4.size)
  clear b5
  cases hmx : mixedB [L1, L2]
  case true =>
    dsimp only
    (repeat (first | go_values | go_skip | go_guarded | go_step | go_upon))
    go_ret
    exact ⟨rfl, B5⟩
  have MX := Lib.hid hmx
  clear hmx
  dsimp only
  (repeat (first | go_values | go_skip | go_guarded | go_step | go_upon))
  refine (In.collate (H1.out.at B5) (H2.out.at B5) F1.out F2.out O1.out O2.out (plains_of MX.out (by simp) (by simp)) c1 c2).mono ?_
  rintro e w6 ⟨rfl, b6⟩
  have A6 := A5.trans (b6.mono A5.size)
  have B6 := B5.trans (b6.mono B5.size)
  clear b6 B5 A5 B4
  dsimp only
  (repeat (first | go_values | go_skip | go_guarded | go_step | go_upon))
  have K1 := J1.out.at A6
  have K2 := J2.out.at A6
  refine (collateS_any b1 b2 m1 m2 d1 d2 L1 L2 w6 M1.out M2.out hl1 hl2 K1.rd K2.rd).mono ?_
  rintro e w7 ⟨rfl, b7⟩
  have B7 := B6.trans (b7.mono B6.size)
  clear b7 B6 A6 K1 K2
  dsimp only
  (repeat (first | go_values | go_skip | go_guarded | go_step | go_upon))
  refine (wakes_any w7).mono ?_
  rintro e w8 ⟨rfl, b8⟩
  have B8 := B7.trans (b8.mono B7.size)
  dsimp only
  (repeat (first | go_values | go_skip | go_guarded | go_step | go_upon))
  go_ret
  exact ⟨rfl, B8⟩

end Go.Proofs.YtaoonpncnahhgaaDoor
