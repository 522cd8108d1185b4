/-
  The walk of laws.FnCollateIsAnOrder.
-/
import Derived.Test.YtaoonpncnahhgaaDoorL4
namespace Go.Proofs.YtaoonpncnahhgaaDoor
open Go.RowKit

theorem lessN_range (a b : Num) : lessN a b = -1 ∨ lessN a b = 0 ∨ lessN a b = 1 := by
  unfold lessN
  repeat' split
  all_goals omega
theorem cmpS_range (s t : Sc) : cmpS s t = -1 ∨ cmpS s t = 0 ∨ cmpS s t = 1 := by
  have h1 := lessN_range (nrm false (u64 s.int) 0) (nrm false (u64 t.int) 0)
  have h2 := bytesCmp_range s.bytes t.bytes
  have h3 := lessN_range (parts s).1 (parts t).1
  have h4 := lessN_range (parts s).2.1 (parts t).2.1
  unfold cmpS
  repeat' split
  all_goals omega
theorem colS_range : ∀ xs ys : List Sc, colS xs ys = -1 ∨ colS xs ys = 0 ∨ colS xs ys = 1
  | [], [] => by unfold colS; omega
  | [], _ :: _ => by unfold colS; omega
  | _ :: _, [] => by unfold colS; omega
  | x :: xs, y :: ys => by
    have h1 := colS_range xs ys
    have h2 := cmpS_range x y
    unfold colS
    split
    all_goals omega

theorem rdLL_three {w : World} {a1 a2 a3 : Option Addr} {n1 n2 n3 c1 c2 c3 : Nat} {L1 L2 L3 : List Sc} (h1 : In w a1 n1 L1) (h2 : In w a2 n2 L2) (h3 : In w a3 n3 L3) (f1 : fitsB L1 = true) (f2 : fitsB L2 = true) (f3 : fitsB L3 = true) :
    rdLL (w.alloc (.cells #[.slice a1 n1 c1, .slice a2 n2 c2, .slice a3 n3 c3] 22)).heap.size (w.alloc (.cells #[.slice a1 n1 c1, .slice a2 n2 c2, .slice a3 n3 c3] 22)) (some ⟨w.heap.size, 0, none⟩) [L1, L2, L3] := by
  have hc := (cells_at (heap_new w (.cells #[.slice a1 n1 c1, .slice a2 n2 c2, .slice a3 n3 c3] 22))).1
  have g1 := h1.at (below1 w (.cells #[.slice a1 n1 c1, .slice a2 n2 c2, .slice a3 n3 c3] 22))
  have g2 := h2.at (below1 w (.cells #[.slice a1 n1 c1, .slice a2 n2 c2, .slice a3 n3 c3] 22))
  have g3 := h3.at (below1 w (.cells #[.slice a1 n1 c1, .slice a2 n2 c2, .slice a3 n3 c3] 22))
  refine .inr ⟨w.heap.size, 0, rfl, by simp, fun i L hL => ?_⟩
  match i with
  | 0 => cases hL; exact ⟨a1, n1, c1, hc 0, h1.hl, by have := (fitsB_n f1).1; have := h1.hl; omega, g1.rd⟩
  | 1 => cases hL; exact ⟨a2, n2, c2, hc 1, h2.hl, by have := (fitsB_n f2).1; have := h2.hl; omega, g2.rd⟩
  | 2 => cases hL; exact ⟨a3, n3, c3, hc 2, h3.hl, by have := (fitsB_n f3).1; have := h3.hl; omega, g3.rd⟩
  | i + 3 => simp at hL

set_option maxRecDepth 100000 in
set_option maxHeartbeats 4000000 in
theorem law5 (a1 a2 a3 : Option Addr) (n1 n2 n3 c1 c2 c3 : Nat) (L1 L2 L3 : List Sc) (w : World) (h1 : In w a1 n1 L1) (h2 : In w a2 n2 L2) (h3 : In w a3 n3 L3) :
    Calls Tryd.prog 5 #[.slice a1 n1 c1, .slice a2 n2 c2, .slice a3 n3 c3] w fun e w' => e = .returned (.bool true) ∧ Below w.heap.size w w' := by
  have H1 := Lib.hid h1
  have H2 := Lib.hid h2
  have H3 := Lib.hid h3
  clear h1 h2 h3
  go_enter Tryd.func5, Tryd.ntmps5
  (repeat (first | go_values | go_skip | go_guarded | go_step | go_upon))
  refine (H1.out.fits c1).mono ?_
  rintro e w1 ⟨rfl, B1⟩
  cases hf1 : fitsB L1
  · dsimp only
    (repeat (first | go_values | go_skip | go_guarded | go_step | go_upon))
    go_ret
    exact ⟨rfl, B1⟩
  have F1 := Lib.hid hf1
  clear hf1
  dsimp only
  (repeat (first | go_values | go_skip | go_guarded | go_step | go_upon))
  refine ((H2.out.at B1).fits c2).mono ?_
  rintro e w2 ⟨rfl, b2⟩
  have B2 := B1.trans (b2.mono B1.size)
  cases hf2 : fitsB L2
  · dsimp only
    (repeat (first | go_values | go_skip | go_guarded | go_step | go_upon))
    go_ret
    exact ⟨rfl, B2⟩
  have F2 := Lib.hid hf2
  clear hf2 b2 B1
  dsimp only
  (repeat (first | go_values | go_skip | go_guarded | go_step | go_upon))
  refine ((H3.out.at B2).fits c3).mono ?_
  rintro e w3 ⟨rfl, b3⟩
  have B3 := B2.trans (b3.mono B2.size)
  cases hf3 : fitsB L3
  · dsimp only
    (repeat (first | go_values | go_skip | go_guarded | go_step | go_upon))
    go_ret
    exact ⟨rfl, B3⟩
  have F3 := Lib.hid hf3
  clear hf3 b3 B2
  dsimp only
  (repeat (first | go_values | go_skip | go_guarded | go_step | go_upon))
  have hs3 := B3.size
  have hcA := (cells_at (heap_new w3 (.cells #[.slice a1 n1 c1, .slice a2 n2 c2, .slice a3 n3 c3] 22))).1
  go_loopw [37] (fun i wr => ∃ k : Nat, k ≤ 3 ∧ i = .int .i64 k ∧ (0 < k → okB L1 = true) ∧ (1 < k → okB L2 = true) ∧ (2 < k → okB L3 = true) ∧ Below (w3.heap.size + 1) (w3.alloc (.cells #[.slice a1 n1 c1, .slice a2 n2 c2, .slice a3 n3 c3] 22)) wr) (fun i _ => 3 - (intOf i).toNat)
  case atStart => exact ⟨0, by omega, rfl, by omega, by omega, by omega, Below.refl _ _⟩
  case round =>
    obtain ⟨k, hk, rfl, q1, q2, q3, hB⟩ := hrel
    have BW := B3.trans (((below1 w3 (.cells #[.slice a1 n1 c1, .slice a2 n2 c2, .slice a3 n3 c3] 22)).trans (hB.mono (by omega))).mono hs3)
    have C1 : wr.cell? ⟨w3.heap.size, 0, none⟩ = some (.slice a1 n1 c1) := (hB.cell (p := ⟨w3.heap.size, 0, none⟩) (Nat.lt_succ_self _)).trans (hcA 0)
    have C2 : wr.cell? ⟨w3.heap.size, 1, none⟩ = some (.slice a2 n2 c2) := (hB.cell (p := ⟨w3.heap.size, 1, none⟩) (Nat.lt_succ_self _)).trans (hcA 1)
    have C3 : wr.cell? ⟨w3.heap.size, 2, none⟩ = some (.slice a3 n3 c3) := (hB.cell (p := ⟨w3.heap.size, 2, none⟩) (Nat.lt_succ_self _)).trans (hcA 2)
    have hsz : w3.heap.size + 1 ≤ wr.heap.size := by have := hB.size; simpa using this
    obtain rfl | rfl | rfl | rfl : k = 0 ∨ k = 1 ∨ k = 2 ∨ k = 3 := by omega
    · (repeat (first | go_values | go_skip | go_guarded | go_step | go_upon))
      refine ((H1.out.at BW).scalars F1.out c1).mono ?_
      rintro e w4 ⟨v4, rfl, b4, -⟩
      cases ho : okB L1
      · dsimp only
        (repeat (first | go_values | go_skip | go_guarded | go_step | go_upon))
        go_ret
        exact ⟨rfl, BW.trans (b4.mono BW.size)⟩
      dsimp only
      (repeat (first | go_values | go_skip | go_guarded | go_step | go_upon))
      go_roundw
      case rel => exact ⟨1, by omega, by go_num, fun _ => ho, by omega, by omega, hB.trans (b4.mono hsz)⟩
      case measure => simp [intOf]
    · (repeat (first | go_values | go_skip | go_guarded | go_step | go_upon))
      refine ((H2.out.at BW).scalars F2.out c2).mono ?_
      rintro e w4 ⟨v4, rfl, b4, -⟩
      cases ho : okB L2
      · dsimp only
        (repeat (first | go_values | go_skip | go_guarded | go_step | go_upon))
        go_ret
        exact ⟨rfl, BW.trans (b4.mono BW.size)⟩
      dsimp only
      (repeat (first | go_values | go_skip | go_guarded | go_step | go_upon))
      go_roundw
      case rel => exact ⟨2, by omega, by go_num, fun _ => q1 (by omega), fun _ => ho, by omega, hB.trans (b4.mono hsz)⟩
      case measure => simp [intOf]
    · (repeat (first | go_values | go_skip | go_guarded | go_step | go_upon))
      refine ((H3.out.at BW).scalars F3.out c3).mono ?_
      rintro e w4 ⟨v4, rfl, b4, -⟩
      cases ho : okB L3
      · dsimp only
        (repeat (first | go_values | go_skip | go_guarded | go_step | go_upon))
        go_ret
        exact ⟨rfl, BW.trans (b4.mono BW.size)⟩
      dsimp only
      (repeat (first | go_values | go_skip | go_guarded | go_step | go_upon))
      go_roundw
      case rel => exact ⟨3, by omega, by go_num, fun _ => q1 (by omega), fun _ => q2 (by omega), fun _ => ho, hB.trans (b4.mono hsz)⟩
      case measure => simp [intOf]
    · have O1 := Lib.hid (q1 (by omega))
      have O2 := Lib.hid (q2 (by omega))
      have O3 := Lib.hid (q3 (by omega))
      clear q1 q2 q3 C1 C2 C3 hB hcA
      (repeat (first | go_values | go_skip | go_guarded | go_step | go_upon))
      refine (mixed_any _ 3 _ [L1, L2, L3] _ rfl (by omega) (rdLL_three (H1.out.at BW) (H2.out.at BW) (H3.out.at BW) F1.out F2.out F3.out)).mono ?_
      rintro e w5 ⟨rfl, b5⟩
      have B5 := BW.trans (((below1 wr (.cells #[.slice a1 n1 c1, .slice a2 n2 c2, .slice a3 n3 c3] 22)).trans (b5.mono (by simp))).mono BW.size)
      clear b5 BW B3
      cases hmx : mixedB [L1, L2, L3]
      case true =>
        dsimp only
        (repeat (first | go_values | go_skip | go_guarded | go_step | go_upon))
        go_ret
        exact ⟨rfl, B5⟩
      have MX := Lib.hid hmx
      clear hmx
      dsimp only
      (repeat (first | go_values | go_skip | go_guarded | go_step | go_upon))
      refine (In.collate (H1.out.at B5) (H2.out.at B5) F1.out F2.out O1.out O2.out (plains_of MX.out (by simp) (by simp)) c1 c2).mono ?_
      rintro e w6 ⟨rfl, b6⟩
      have B6 := B5.trans (b6.mono B5.size)
      clear b6 B5
      dsimp only
      (repeat (first | go_values | go_skip | go_guarded | go_step | go_upon))
      refine (In.collate (H2.out.at B6) (H3.out.at B6) F2.out F3.out O2.out O3.out (plains_of MX.out (by simp) (by simp)) c2 c3).mono ?_
      rintro e w7 ⟨rfl, b7⟩
      have B7 := B6.trans (b7.mono B6.size)
      clear b7 B6
      dsimp only
      (repeat (first | go_values | go_skip | go_guarded | go_step | go_upon))
      refine (In.collate (H1.out.at B7) (H3.out.at B7) F1.out F3.out O1.out O3.out (plains_of MX.out (by simp) (by simp)) c1 c3).mono ?_
      rintro e w8 ⟨rfl, b8⟩
      have B8 := B7.trans (b8.mono B7.size)
      clear b8 B7
      dsimp only
      (repeat (first | go_values | go_skip | go_guarded | go_step | go_upon))
      have HC := In.collate (H2.out.at B8) (H1.out.at B8) F2.out F1.out O2.out O1.out (plains_of MX.out (by simp) (by simp)) c2 c1
      have hT := colS_T L1 L2 L3 (H1.out.fit O1.out) (H2.out.fit O2.out) (H3.out.fit O3.out)
      have r1 := colS_range L1 L2
      have r2 := colS_range L2 L3
      have r3 := colS_range L1 L3
      rw [colS_swap L1 L2 (H1.out.fit O1.out) (H2.out.fit O2.out)] at HC
      refine HC.mono ?_
      clear HC
      rintro e w9 ⟨rfl, b9⟩
      have B9 := B8.trans (b9.mono B8.size)
      clear b9 B8
      generalize colS L1 L2 = A at *
      generalize colS L2 L3 = B at *
      generalize colS L1 L3 = C at *
      unfold T3 at hT
      have HW := Lib.hid (wakes_any w9)
      have HB9 := Lib.hid B9
      clear B9 H1 H2 H3 F1 F2 F3 O1 O2 O3 MX hs3 hsz
      rcases r1 with rfl | rfl | rfl
      all_goals rcases r2 with rfl | rfl | rfl
      all_goals rcases r3 with rfl | rfl | rfl
      all_goals first
        | (exfalso; revert hT; decide)
        | (clear hT
           dsimp only [Int.reduceNeg, Int.neg_neg]
           (repeat (first | go_values | go_skip | go_guarded | go_step | go_upon))
           refine HW.out.mono ?_
           rintro e w10 ⟨rfl, b10⟩
           have B10 := HB9.out.trans (b10.mono HB9.out.size)
           dsimp only
           (repeat (first | go_values | go_skip | go_guarded | go_step | go_upon))
           go_ret
           exact ⟨rfl, B10⟩)

end Go.Proofs.YtaoonpncnahhgaaDoor
