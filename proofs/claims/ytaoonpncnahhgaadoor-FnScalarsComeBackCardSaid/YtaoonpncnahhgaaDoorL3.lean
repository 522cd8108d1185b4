/-
  The walk of laws.FnScalarsComeBack.
-/
import Derived.Test.YtaoonpncnahhgaaDoorK6
import Derived.Deep.RegionWith
import Derived.Deep.DeepCutAuto
namespace Go.Proofs.YtaoonpncnahhgaaDoor
open Go.RowKit

theorem rdB_drew {B : Nat} {w : World} {a : Option Addr} {n : Nat} {bs : List UInt8} (h : rdB B w a n bs) : rdB B w.drew a n bs := h

theorem scs_ok3 {w : World} {ss : List Sc} (h : scs w ss) : ∀ s ∈ ss, s.wf ∧ OkFacts s ∧ s.bn ≤ 2147483647 := fun s hs => ⟨(h s hs).1, (h s hs).2.1, (h s hs).2.2.1⟩

/-- what was decoded, one by one -/
theorem back_at {ss L : List Sc} (e : ss.map avS = (L.map avS).map ctOf) (k : Nat) (s t : Sc) (hs : ss[k]? = some s) (ht : L[k]? = some t) : avS s = ctOf (avS t) := by
  have h := congrArg (fun l => l[k]?) e
  simpa [hs, ht] using h

set_option maxRecDepth 100000 in
set_option maxHeartbeats 4000000 in
theorem law3 (a1 : Option Addr) (n1 c1 : Nat) (L1 : List Sc) (w : World) (h1 : In w a1 n1 L1) :
    Calls Tryd.prog 3 #[.slice a1 n1 c1] w fun e w' => e = .returned (.bool true) ∧ Below w.heap.size w w' := by
  have H1 := Lib.hid h1
  have HL := Lib.hid h1.hl
  clear h1
  go_enter Tryd.func3, Tryd.ntmps3
  (repeat (first | go_values | go_skip | go_guarded | go_step | go_upon))
  refine (H1.out.fits c1).mono ?_
  rintro e w1 ⟨rfl, B1⟩
  cases hf1 : fitsB L1
  · dsimp only
    (repeat (first | go_values | go_skip | go_guarded | go_step | go_upon))
    go_ret
    exact ⟨rfl, B1⟩
  have F1 := Lib.hid hf1
  clear hf1
  dsimp only
  (repeat (first | go_values | go_skip | go_guarded | go_step | go_upon))
  refine ((H1.out.at B1).scalars F1.out c1).mono ?_
  rintro e w3 ⟨v3, rfl, b3, r3⟩
  have B3 := B1.trans (b3.mono B1.size)
  have R3 := Lib.hid r3
  clear b3 B1 r3
  cases ho1 : okB L1
  · dsimp only
    (repeat (first | go_values | go_skip | go_guarded | go_step | go_upon))
    go_ret
    exact ⟨rfl, B3⟩
  obtain ⟨q1, d1, rfl, p1⟩ := R3.out ho1
  rw [HL.out]
  have P1 := Lib.hid p1
  have O1 := Lib.hid ho1
  clear ho1 p1 R3
  have hn1 : n1 ≤ 2147483647 := by have := (fitsB_n F1.out).1; have := HL.out; omega
  dsimp only
  (repeat (first | go_values | go_skip | go_guarded | go_step | go_upon))
  refine ((H1.out.at B3).encode F1.out O1.out c1).mono ?_
  rintro e w4 ⟨x1, y1, rfl, p4, b4⟩
  have B4 := B3.trans (b4.mono B3.size)
  have P4 := Lib.hid ((P1.out.below b4 (Nat.le_refl _)).mono b4.size)
  have D1 := Lib.hid ((H1.out.at B4).decode F1.out O1.out x1 y1 w4 p4)
  clear b4 B3 p4 P1
  generalize (encL L1).length = m1 at *
  dsimp only
  (repeat (first | go_values | go_skip | go_guarded | go_step | go_upon))
  refine D1.out.mono ?_
  rintro e w5 ⟨u1, y2, ss1, rfl, e5, k5, r5, b5⟩
  have B5 := B4.trans (b5.mono B4.size)
  have P5 := Lib.hid ((P4.out.below b5 (Nat.le_refl _)).mono b5.size)
  have E5 := Lib.hid e5
  have K5 := Lib.hid (scs_ok3 k5)
  have R5 := Lib.hid r5
  have S5 := Lib.hid k5
  have l5 : ss1.length = n1 := by have := congrArg List.length e5; simp at this; rw [this]; exact HL.out
  have L5 := Lib.hid l5
  have hs5 := B5.size
  clear e5 k5 r5 b5 B4 P4 D1 l5
  dsimp only
  (repeat (first | go_values | go_skip | go_guarded | go_step | go_upon))
  go_loopw [47] (fun i wr => ∃ k : Nat, k ≤ n1 ∧ i = .int .i64 k ∧ Below w5.heap.size w5 wr) (fun i _ => n1 - (intOf i).toNat)
  case atStart => exact ⟨0, Nat.zero_le _, rfl, Below.refl _ _⟩
  case round =>
    obtain ⟨k, hk, rfl, hB⟩ := hrel
    by_cases hlt : k < n1
    · obtain ⟨s, hs⟩ : ∃ s, ss1[k]? = some s := ⟨_, List.getElem?_eq_getElem (by rw [L5.out]; exact hlt)⟩
      obtain ⟨t, ht⟩ : ∃ t, L1[k]? = some t := ⟨_, List.getElem?_eq_getElem (by rw [HL.out]; exact hlt)⟩
      rcases R5.out with h0 | ⟨b, o, rfl, hb, hc⟩
      · subst h0; simp at hs
      rcases P5.out with h0 | ⟨b', o', rfl, hb', hc'⟩
      · subst h0; simp at ht
      have hsc := (hc k s hs).below hB (Nat.le_refl _) hb
      have htc := (hc' k t ht).below hB (Nat.le_refl _) hb'
      have hok := K5.out s (List.mem_of_getElem? hs)
      have hokt := (H1.out.ok F1.out O1.out) t (List.mem_of_getElem? ht)
      obtain ⟨hcl, hcm⟩ := back_eq s t hok.2.1 hokt.2.1 (back_at E5.out k s t hs ht)
      have HCM := Lib.hid (fun W rs rt => cmp_any s t W hok.1 hokt.1 rs rt)
      rw [hcm] at HCM
      have HRS := Lib.hid (rdB_mono hsc.rd hB.size)
      have HRT := Lib.hid (rdB_mono htc.rd hB.size)
      have HCL1 := Lib.hid hcl
      have e0 := hsc.c0
      have e1 := hsc.c1
      have e2 := hsc.c2
      have e3 := hsc.c3
      have e4 := hsc.c4
      have e5 := hsc.c5
      have g0 := htc.c0
      have g1 := htc.c1
      have g2 := htc.c2
      have g3 := htc.c3
      have g4 := htc.c4
      have g5 := htc.c5
      clear hsc htc hok hokt hcl hcm hs ht hc hc'
      obtain ⟨kd, it, u, fa, fb, ba, bn, bc, bs⟩ := s
      obtain ⟨kd', it', u', fa', fb', ba', bn', bc', bs'⟩ := t
      simp only at e0 e1 e2 e3 e4 e5 g0 g1 g2 g3 g4 g5
      go_upto_region 14 with fail
      have BW : Below wr.heap.size wr ((wr.alloc (.cells #[.int .i64 kd, .int .i64 it, .int .u64 (u : Int), .int .u64 (fa : Int), .int .u64 (fb : Int), .slice ba bn bc] 34)).alloc (.cells #[.int .i64 kd, .int .i64 it, .int .u64 (u : Int), .int .u64 (fa : Int), .int .u64 (fb : Int), .slice ba bn bc] 35)) := (below1 wr (.cells #[.int .i64 kd, .int .i64 it, .int .u64 (u : Int), .int .u64 (fa : Int), .int .u64 (fb : Int), .slice ba bn bc] 34)).trans ((below1 (wr.alloc (.cells #[.int .i64 kd, .int .i64 it, .int .u64 (u : Int), .int .u64 (fa : Int), .int .u64 (fb : Int), .slice ba bn bc] 34)) (.cells #[.int .i64 kd, .int .i64 it, .int .u64 (u : Int), .int .u64 (fa : Int), .int .u64 (fb : Int), .slice ba bn bc] 35)).mono (by simp))
      have p7 : ((wr.alloc (.cells #[.int .i64 kd, .int .i64 it, .int .u64 (u : Int), .int .u64 (fa : Int), .int .u64 (fb : Int), .slice ba bn bc] 34)).alloc (.cells #[.int .i64 kd, .int .i64 it, .int .u64 (u : Int), .int .u64 (fa : Int), .int .u64 (fb : Int), .slice ba bn bc] 35)).heap[wr.heap.size]? = some (.cells #[.int .i64 kd, .int .i64 it, .int .u64 (u : Int), .int .u64 (fa : Int), .int .u64 (fb : Int), .slice ba bn bc] 34) := (Below.heap_alloc _ _ _ (by simp)).trans (heap_new wr _)
      have p8 : ((wr.alloc (.cells #[.int .i64 kd, .int .i64 it, .int .u64 (u : Int), .int .u64 (fa : Int), .int .u64 (fb : Int), .slice ba bn bc] 34)).alloc (.cells #[.int .i64 kd, .int .i64 it, .int .u64 (u : Int), .int .u64 (fa : Int), .int .u64 (fb : Int), .slice ba bn bc] 35)).heap[wr.heap.size + 1]? = some (.cells #[.int .i64 kd, .int .i64 it, .int .u64 (u : Int), .int .u64 (fa : Int), .int .u64 (fb : Int), .slice ba bn bc] 35) := by
        have := heap_new (wr.alloc (.cells #[.int .i64 kd, .int .i64 it, .int .u64 (u : Int), .int .u64 (fa : Int), .int .u64 (fb : Int), .slice ba bn bc] 34)) (.cells #[.int .i64 kd, .int .i64 it, .int .u64 (u : Int), .int .u64 (fa : Int), .int .u64 (fb : Int), .slice ba bn bc] 35)
        rwa [show (wr.alloc (.cells #[.int .i64 kd, .int .i64 it, .int .u64 (u : Int), .int .u64 (fa : Int), .int .u64 (fb : Int), .slice ba bn bc] 34)).heap.size = wr.heap.size + 1 by simp] at this
      generalize ((wr.alloc (.cells #[.int .i64 kd, .int .i64 it, .int .u64 (u : Int), .int .u64 (fa : Int), .int .u64 (fb : Int), .slice ba bn bc] 34)).alloc (.cells #[.int .i64 kd, .int .i64 it, .int .u64 (u : Int), .int .u64 (fa : Int), .int .u64 (fb : Int), .slice ba bn bc] 35)) = W at *
      have hbw : b' < wr.heap.size := Nat.lt_of_lt_of_le hb' hB.size
      replace g0 := (BW.cell (p := ⟨b', o' + k * 6, none⟩) hbw).trans g0
      replace g1 := (BW.cell (p := ⟨b', o' + k * 6 + 1, none⟩) hbw).trans g1
      replace g2 := (BW.cell (p := ⟨b', o' + k * 6 + 2, none⟩) hbw).trans g2
      replace g3 := (BW.cell (p := ⟨b', o' + k * 6 + 3, none⟩) hbw).trans g3
      replace g4 := (BW.cell (p := ⟨b', o' + k * 6 + 4, none⟩) hbw).trans g4
      replace g5 := (BW.cell (p := ⟨b', o' + k * 6 + 5, none⟩) hbw).trans g5
      obtain ⟨d7, -⟩ := cells_at p7
      obtain ⟨d8, -⟩ := cells_at p8
      have HRS2 := Lib.hid (rdB_mono (HRS.out.below BW (Nat.le_refl _)) BW.size)
      have HRT2 := Lib.hid (rdB_mono (HRT.out.below BW (Nat.le_refl _)) BW.size)
      obtain ⟨q, hq⟩ : ∃ q, classOf kd' = q := ⟨_, rfl⟩
      have HQ := Lib.hid hq
      have HQ1 := Lib.hid (show classOf kd = q from HCL1.out.trans hq)
      have BN := hB.trans (BW.mono hB.size)
      clear e0 e1 e2 e3 e4 e5 HRS HRT HCL1 hq p7 p8 hB hb hb' hbw R5 P5 E5 K5 S5
      go_cut [83] (fun v wx => v = .bool false ∧ Below W.heap.size W wx)
      case first =>
        go_region_with (first
          | (go_at_call_of 11 (Value.int .i64 kd); refine (class_eq kd q HQ1.out _).mono ?_; rintro e w' ⟨rfl, rfl⟩)
          | (go_at_call_of 11 (Value.int .i64 kd'); refine (class_eq kd' q HQ.out _).mono ?_; rintro e w' ⟨rfl, rfl⟩)
          | (go_at_call 12; refine (HCM.out _ ?_ ?_).mono ?_; exact HRS2.out; exact HRT2.out; rintro e w' ⟨rfl, hcb⟩))
        all_goals
          go_wp2_with fail
          go_meet
          exact ⟨rfl, (Below.refl _ _).drew.trans hcb⟩
      case rest =>
        obtain ⟨rfl, hcut⟩ := hcut
        have BE := BN.trans (hcut.mono BN.size)
        (repeat (first | go_values | go_skip | go_guarded | go_step | go_upon))
        go_roundw
        case rel => exact ⟨k + 1, by omega, by go_num, BE⟩
        case measure => simp [intOf]; omega
    · obtain rfl : k = n1 := by omega
      (repeat (first | go_values | go_skip | go_guarded | go_step | go_upon))
      refine (wakes_any _).mono ?_
      rintro e w8 ⟨rfl, b8⟩
      have B6 := B5.trans (hB.mono hs5)
      have B8 := B6.trans (b8.mono B6.size)
      dsimp only
      (repeat (first | go_values | go_skip | go_guarded | go_step | go_upon))
      go_ret
      exact ⟨rfl, B8⟩

end Go.Proofs.YtaoonpncnahhgaaDoor
