/-
  The walk of laws.FnEncodedKeepsOrder.
-/
import Derived.Test.YtaoonpncnahhgaaDoorD15
namespace Go.Proofs.YtaoonpncnahhgaaDoor
open Go.RowKit

theorem scs_ok {w : World} {ss : List Sc} (h : scs w ss) : ∀ s ∈ ss, s.wf ∧ OkFacts s ∧ s.bn ≤ 2147483647 := fun s hs => ⟨(h s hs).1, (h s hs).2.1, (h s hs).2.2.1⟩

/-- the order of what was decoded is that of what was encoded -/
theorem collate_back {w : World} {a1 a2 b1 b2 : Option Addr} {n1 n2 : Nat} {L1 L2 ss1 ss2 : List Sc} (h1 : In w a1 n1 L1) (h2 : In w a2 n2 L2) (f1 : fitsB L1 = true) (f2 : fitsB L2 = true) (o1 : okB L1 = true) (o2 : okB L2 = true) (hp : Plains L1 L2)
    (e1 : ss1.map avS = (L1.map avS).map ctOf) (e2 : ss2.map avS = (L2.map avS).map ctOf) (s1 : ∀ s ∈ ss1, s.wf ∧ OkFacts s ∧ s.bn ≤ 2147483647) (s2 : ∀ s ∈ ss2, s.wf ∧ OkFacts s ∧ s.bn ≤ 2147483647)
    (r1 : rdL w.heap.size w b1 ss1) (r2 : rdL w.heap.size w b2 ss2) (c1 c2 : Nat) :
    Calls Tryd.prog 15 #[.slice b1 n1 c1, .slice b2 n2 c2] w fun e w' => e = .returned (.tuple #[.int .i64 (colS L1 L2), .int .i64 0]) ∧ Below w.heap.size w w' := by
  have l1 : ss1.length = n1 := by have := congrArg List.length e1; simp at this; rw [this]; exact h1.hl
  have l2 : ss2.length = n2 := by have := congrArg List.length e2; simp at this; rw [this]; exact h2.hl
  have h := implCollate_any b1 b2 n1 n2 c1 c2 ss1 ss2 w l1 l2 (by have := (fitsB_n f1).1; have := h1.hl; omega) (by have := (fitsB_n f2).1; have := h2.hl; omega) r1 r2 s1 s2
  rw [e1, e2, colA_ct, col_link (h1.fit o1) (h2.fit o2) hp] at h
  exact h

set_option maxRecDepth 100000 in
set_option maxHeartbeats 4000000 in
theorem law6 (a1 a2 : Option Addr) (n1 n2 c1 c2 : Nat) (L1 L2 : List Sc) (w : World) (h1 : In w a1 n1 L1) (h2 : In w a2 n2 L2) :
    Calls Tryd.prog 6 #[.slice a1 n1 c1, .slice a2 n2 c2] w fun e w' => e = .returned (.bool true) ∧ Below w.heap.size w w' := by
  have H1 := Lib.hid h1
  have H2 := Lib.hid h2
  clear h1 h2
  go_enter Tryd.func6, Tryd.ntmps6
  (repeat (first | go_values | go_skip | go_guarded | go_step | go_upon))
  refine (H1.out.fits c1).mono ?_
  rintro e w1 ⟨rfl, B1⟩
  cases hf1 : fitsB L1
  · dsimp only
    (repeat (first | go_values | go_skip | go_guarded | go_step | go_upon))
    go_ret
    exact ⟨rfl, B1⟩
  have F1 := Lib.hid hf1
  clear hf1
  dsimp only
  (repeat (first | go_values | go_skip | go_guarded | go_step | go_upon))
  refine ((H2.out.at B1).fits c2).mono ?_
  rintro e w2 ⟨rfl, b2⟩
  have B2 := B1.trans (b2.mono B1.size)
  cases hf2 : fitsB L2
  · dsimp only
    (repeat (first | go_values | go_skip | go_guarded | go_step | go_upon))
    go_ret
    exact ⟨rfl, B2⟩
  have F2 := Lib.hid hf2
  clear hf2 b2 B1
  dsimp only
  (repeat (first | go_values | go_skip | go_guarded | go_step | go_upon))
  refine ((H1.out.at B2).scalars F1.out c1).mono ?_
  rintro e w3 ⟨v3, rfl, b3, -⟩
  have B3 := B2.trans (b3.mono B2.size)
  clear b3 B2
  dsimp only
  (repeat (first | go_values | go_skip | go_guarded | go_step | go_upon))
  refine ((H2.out.at B3).scalars F2.out c2).mono ?_
  rintro e w4 ⟨v4, rfl, b4, -⟩
  have B4 := B3.trans (b4.mono B3.size)
  clear b4 B3
  cases ho1 : okB L1
  · dsimp only
    (repeat (first | go_values | go_skip | go_guarded | go_step | go_upon))
    go_ret
    exact ⟨rfl, B4⟩
  cases ho2 : okB L2
  · dsimp only
    (repeat (first | go_values | go_skip | go_guarded | go_step | go_upon))
    go_ret
    exact ⟨rfl, B4⟩
  have O1 := Lib.hid ho1
  have O2 := Lib.hid ho2
  clear ho1 ho2
  dsimp only
  (repeat (first | go_values | go_skip | go_guarded | go_step | go_upon))
  refine (mixed_any _ 2 _ [L1, L2] _ rfl (by omega) (rdLL_two (H1.out.at B4) (H2.out.at B4) F1.out F2.out)).mono ?_
  rintro e w5 ⟨rfl, b5⟩
  have A5 := (below1 w4 (.cells #[.slice a1 n1 c1, .slice a2 n2 c2] 22)).trans (b5.mono (by simp))
  have B5 := B4.trans (A5.mono B4.size)
  clear b5 A5 B4
  cases hmx : mixedB [L1, L2]
  case true =>
    dsimp only
    (repeat (first | go_values | go_skip | go_guarded | go_step | go_upon))
    go_ret
    exact ⟨rfl, B5⟩
  have MX := Lib.hid hmx
  clear hmx
  dsimp only
  (repeat (first | go_values | go_skip | go_guarded | go_step | go_upon))
  refine ((H1.out.at B5).encode F1.out O1.out c1).mono ?_
  rintro e w6 ⟨x1, y1, rfl, p1, b6⟩
  have B6 := B5.trans (b6.mono B5.size)
  have P1 := Lib.hid p1
  clear b6 B5 p1
  dsimp only
  (repeat (first | go_values | go_skip | go_guarded | go_step | go_upon))
  refine ((H2.out.at B6).encode F2.out O2.out c2).mono ?_
  rintro e w7 ⟨x2, y2, rfl, p2, b7⟩
  have B7 := B6.trans (b7.mono B6.size)
  have P1' := Lib.hid (rdB_mono (P1.out.below b7 (Nat.le_refl _)) b7.size)
  have P2 := Lib.hid p2
  have D1 := Lib.hid (fun c W hr => (H1.out.at B7).decode F1.out O1.out x1 c W hr)
  have D2 := Lib.hid (fun c W hr => (H2.out.at B7).decode F2.out O2.out x2 c W hr)
  clear b7 B6 p2 P1
  generalize (encL L1).length = m1 at *
  generalize (encL L2).length = m2 at *
  dsimp only
  (repeat (first | go_values | go_skip | go_guarded | go_step | go_upon))
  refine (D1.out y1 w7 P1'.out).mono ?_
  rintro e w8 ⟨u1, d1, ss1, rfl, e1, k1, r1, b8⟩
  have B8 := B7.trans (b8.mono B7.size)
  have P2' := Lib.hid (rdB_mono (P2.out.below b8 (Nat.le_refl _)) b8.size)
  have E1 := Lib.hid e1
  have K1 := Lib.hid (scs_ok k1)
  have R1 := Lib.hid r1
  clear e1 k1 r1 b8 B7 P1' P2
  dsimp only
  (repeat (first | go_values | go_skip | go_guarded | go_step | go_upon))
  refine (D2.out y2 w8 P2'.out).mono ?_
  rintro e w9 ⟨u2, d2, ss2, rfl, e2, k2, r2, b9⟩
  have B9 := B8.trans (b9.mono B8.size)
  have R1' := Lib.hid ((R1.out.below b9 (Nat.le_refl _)).mono b9.size)
  have E2 := Lib.hid e2
  have K2 := Lib.hid (scs_ok k2)
  have R2 := Lib.hid r2
  clear e2 k2 r2 b9 B8 R1 P2' D1 D2
  dsimp only
  (repeat (first | go_values | go_skip | go_guarded | go_step | go_upon))
  refine (In.collate (H1.out.at B9) (H2.out.at B9) F1.out F2.out O1.out O2.out (plains_of MX.out (by simp) (by simp)) c1 c2).mono ?_
  rintro e w10 ⟨rfl, b10⟩
  have B10 := B9.trans (b10.mono B9.size)
  have R3 := Lib.hid ((R1'.out.below b10 (Nat.le_refl _)).mono b10.size)
  have R4 := Lib.hid ((R2.out.below b10 (Nat.le_refl _)).mono b10.size)
  clear b10 B9 R1' R2
  dsimp only
  (repeat (first | go_values | go_skip | go_guarded | go_step | go_upon))
  refine (collate_back (H1.out.at B10) (H2.out.at B10) F1.out F2.out O1.out O2.out (plains_of MX.out (by simp) (by simp)) E1.out E2.out K1.out K2.out R3.out R4.out d1 d2).mono ?_
  rintro e w11 ⟨rfl, b11⟩
  have B11 := B10.trans (b11.mono B10.size)
  clear b11 B10
  generalize colS L1 L2 = r at *
  dsimp only
  (repeat (first | go_values | go_skip | go_guarded | go_step | go_upon))
  refine (wakes_any w11).mono ?_
  rintro e w12 ⟨rfl, b12⟩
  have B12 := B11.trans (b12.mono B11.size)
  dsimp only
  (repeat (first | go_values | go_skip | go_guarded | go_step | go_upon))
  go_ret
  exact ⟨rfl, B12⟩

end Go.Proofs.YtaoonpncnahhgaaDoor
