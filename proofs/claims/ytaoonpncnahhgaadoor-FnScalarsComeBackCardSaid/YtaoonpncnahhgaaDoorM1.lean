/-
  mixed.
-/
import Derived.Test.YtaoonpncnahhgaaDoorW9
namespace Go.Proofs.YtaoonpncnahhgaaDoor
open Go.RowKit

/-- an integer kind's number beyond 2^53 -/
def greatS (s : Sc) : Bool := classOf s.kind == 2 && (if s.kind < 7 then decide (9007199254740992 < s.int) || decide (s.int < -9007199254740992) else decide (s.kind < 12) && decide (9007199254740992 < s.uint))
/-- a number that is no integer kind's -/
def realS (s : Sc) : Bool := classOf s.kind == 2 && decide (12 ≤ s.kind)
/-- there are both -/
def mixedB (Ls : List (List Sc)) : Bool := Ls.any (fun L => L.any greatS) && Ls.any (fun L => L.any realS)

/-- a list of lists of scalars -/
def rdLL (B : Nat) (w : World) (a : Option Addr) (Ls : List (List Sc)) : Prop :=
  Ls = [] ∨ ∃ b o, a = some ⟨b, o, none⟩ ∧ b < B ∧ ∀ (i : Nat) (L : List Sc), Ls[i]? = some L → ∃ a' n c, w.cell? ⟨b, o + i, none⟩ = some (.slice a' n c) ∧ L.length = n ∧ n ≤ 2147483647 ∧ rdL B w a' L

theorem any_snoc {α : Type} {L : List α} {k : Nat} {s : α} (p : α → Bool) (h : L[k]? = some s) : (L.take (k + 1)).any p = ((L.take k).any p || p s) := by
  obtain ⟨l, e⟩ := List.getElem?_eq_some_iff.1 h
  rw [List.take_succ_eq_append_getElem l, List.any_append, e]
  simp

set_option maxHeartbeats 4000000 in
theorem mixed_any (a : Option Addr) (n c : Nat) (Ls : List (List Sc)) (w : World) (hl : Ls.length = n) (hn : n ≤ 2147483647) (h : rdLL w.heap.size w a Ls) :
    Calls Tryd.prog 14 #[.slice a n c] w fun e w' => e = .returned (.bool (mixedB Ls)) ∧ Below w.heap.size w w' := by
  have HH := Lib.hid h
  have HL := Lib.hid hl
  clear h hl
  go_enter Tryd.func14, Tryd.ntmps14
  go_wp2_with fail
  go_loopw [3, 4, 11] (fun g r i wr => ∃ (k : Nat) (vg vr : Bool), k ≤ n ∧ i = .int .i64 k ∧ g = .bool vg ∧ r = .bool vr ∧ Hid (vg = (Ls.take k).any (fun L => L.any greatS)) ∧ Hid (vr = (Ls.take k).any (fun L => L.any realS)) ∧ Below w.heap.size w wr) (fun _ _ i _ => n - (intOf i).toNat)
  case atStart => exact ⟨0, false, false, Nat.zero_le _, rfl, rfl, rfl, rfl, rfl, Below.refl _ _⟩
  case round =>
    obtain ⟨k, vg, vr, hk, rfl, rfl, rfl, hg, hr, hB⟩ := hrel
    by_cases hlt : k < n
    · obtain ⟨L, hs⟩ : ∃ L, Ls[k]? = some L := ⟨_, List.getElem?_eq_getElem (by rw [HL.out]; exact hlt)⟩
      rcases HH.out with h0 | ⟨b, o, rfl, hb, hc⟩
      · subst h0; simp at hs
      obtain ⟨a', m, d, hcell, hm, hm2, hrd⟩ := hc k L hs
      have hcell' := (hB.cell (p := ⟨b, o + k, none⟩) hb).trans hcell
      have HS := Lib.hid hs
      have HRD := Lib.hid ((hrd.below hB (Nat.le_refl _)).mono hB.size)
      have HM := Lib.hid hm
      clear hc hs hcell hrd hm
      go_wp2_with fail
      go_loopw [3, 4, 17] (fun g r i wx => ∃ (j : Nat) (ug ur : Bool), j ≤ m ∧ i = .int .i64 j ∧ g = .bool ug ∧ r = .bool ur ∧ Hid (ug = (vg || (L.take j).any greatS)) ∧ Hid (ur = (vr || (L.take j).any realS)) ∧ Below wr.heap.size wr wx) (fun _ _ i _ => m - (intOf i).toNat)
      case atStart => exact ⟨0, vg, vr, Nat.zero_le _, rfl, rfl, rfl, by show vg = _; simp, by show vr = _; simp, Below.refl _ _⟩
      case round =>
        obtain ⟨j, ug, ur, hj, rfl, rfl, rfl, hug, hur, hB2⟩ := hrel
        by_cases hjm : j < m
        · obtain ⟨s, hs⟩ : ∃ s, L[j]? = some s := ⟨_, List.getElem?_eq_getElem (by rw [HM.out]; exact hjm)⟩
          rcases HRD.out with h0 | ⟨b2, o2, rfl, hb2, hc⟩
          · subst h0; simp at hs
          have hsc := (hc j s hs).below hB2 (Nat.le_refl _) hb2
          have e0 := hsc.c0
          have e1 := hsc.c1
          have e2 := hsc.c2
          have e3 := hsc.c3
          have e4 := hsc.c4
          have e5 := hsc.c5
          have HS2 := Lib.hid hs
          clear hsc hs hc
          by_cases h2 : classOf s.kind = 2
          · have H2 := Lib.hid h2
            clear h2
            by_cases h7 : s.kind < 7
            · cases ug
              case false =>
                by_cases h8 : 9007199254740992 < s.int
                · have g8 : decide (9007199254740992 < s.int) = true := by simpa using h8
                  go_wp2_with (go_at_call 11; refine (class_eq s.kind 2 H2.out _).mono ?_; rintro e w2 ⟨rfl, rfl⟩)
                  go_roundw
                  case rel =>
                    refine ⟨j + 1, _, _, by omega, by go_num, rfl, rfl, ?_, ?_, hB2.trans ((below1 wr _).mono hB2.size)⟩
                    · show _ = _
                      rw [any_snoc _ HS2.out, ← Bool.or_assoc, ← hug.out]; unfold greatS; rw [H2.out]; simp [show s.kind < 7 from by omega, h8]
                    · show _ = _
                      rw [any_snoc _ HS2.out, ← Bool.or_assoc, ← hur.out]; unfold realS; rw [H2.out]; simp; omega
                  case measure => simp [intOf]; omega
                · have g8 : decide (9007199254740992 < s.int) = false := by simpa using h8
                  go_wp2_with (go_at_call 11; refine (class_eq s.kind 2 H2.out _).mono ?_; rintro e w2 ⟨rfl, rfl⟩)
                  go_roundw
                  case rel =>
                    refine ⟨j + 1, _, _, by omega, by go_num, rfl, rfl, ?_, ?_, hB2.trans ((below1 wr _).mono hB2.size)⟩
                    · show _ = _
                      rw [any_snoc _ HS2.out, ← Bool.or_assoc, ← hug.out]; unfold greatS; rw [H2.out]; simp [show s.kind < 7 from by omega, show ¬ 9007199254740992 < s.int from by omega]
                    · show _ = _
                      rw [any_snoc _ HS2.out, ← Bool.or_assoc, ← hur.out]; unfold realS; rw [H2.out]; simp; omega
                  case measure => simp [intOf]; omega
              case true =>
                go_wp2_with (go_at_call 11; refine (class_eq s.kind 2 H2.out _).mono ?_; rintro e w2 ⟨rfl, rfl⟩)
                go_roundw
                case rel =>
                  refine ⟨j + 1, _, _, by omega, by go_num, rfl, rfl, ?_, ?_, hB2.trans ((below1 wr _).mono hB2.size)⟩
                  · show _ = _
                    rw [any_snoc _ HS2.out, ← Bool.or_assoc, ← hug.out]; unfold greatS; rw [H2.out]; simp [h7]
                  · show _ = _
                    rw [any_snoc _ HS2.out, ← Bool.or_assoc, ← hur.out]; unfold realS; rw [H2.out]; simp; omega
                case measure => simp [intOf]; omega
            · by_cases h12 : s.kind < 12
              · cases ug
                case false =>
                  go_wp2_with (go_at_call 11; refine (class_eq s.kind 2 H2.out _).mono ?_; rintro e w2 ⟨rfl, rfl⟩)
                  go_roundw
                  case rel =>
                    refine ⟨j + 1, _, _, by omega, by go_num, rfl, rfl, ?_, ?_, hB2.trans ((below1 wr _).mono hB2.size)⟩
                    · show _ = _
                      rw [any_snoc _ HS2.out, ← Bool.or_assoc, ← hug.out]; unfold greatS; rw [H2.out]; simp [show ¬ s.kind < 7 from by omega, h12]; omega
                    · show _ = _
                      rw [any_snoc _ HS2.out, ← Bool.or_assoc, ← hur.out]; unfold realS; rw [H2.out]; simp; omega
                  case measure => simp [intOf]; omega
                case true =>
                  go_wp2_with (go_at_call 11; refine (class_eq s.kind 2 H2.out _).mono ?_; rintro e w2 ⟨rfl, rfl⟩)
                  go_roundw
                  case rel =>
                    refine ⟨j + 1, _, _, by omega, by go_num, rfl, rfl, ?_, ?_, hB2.trans ((below1 wr _).mono hB2.size)⟩
                    · show _ = _
                      rw [any_snoc _ HS2.out, ← Bool.or_assoc, ← hug.out]; unfold greatS; rw [H2.out]; simp [show ¬ s.kind < 7 from by omega, h12]
                    · show _ = _
                      rw [any_snoc _ HS2.out, ← Bool.or_assoc, ← hur.out]; unfold realS; rw [H2.out]; simp; omega
                  case measure => simp [intOf]; omega
              · cases ug
                case false =>
                  go_wp2_with (go_at_call 11; refine (class_eq s.kind 2 H2.out _).mono ?_; rintro e w2 ⟨rfl, rfl⟩)
                  go_roundw
                  case rel =>
                    refine ⟨j + 1, _, _, by omega, by go_num, rfl, rfl, ?_, ?_, hB2.trans ((below1 wr _).mono hB2.size)⟩
                    · show _ = _
                      rw [any_snoc _ HS2.out, ← Bool.or_assoc, ← hug.out]; unfold greatS; rw [H2.out]; simp [show ¬ s.kind < 7 from by omega, show ¬ s.kind < 12 from by omega]
                    · show _ = _
                      rw [any_snoc _ HS2.out, ← Bool.or_assoc, ← hur.out]; unfold realS; rw [H2.out]; simp; omega
                  case measure => simp [intOf]; omega
                case true =>
                  go_wp2_with (go_at_call 11; refine (class_eq s.kind 2 H2.out _).mono ?_; rintro e w2 ⟨rfl, rfl⟩)
                  go_roundw
                  case rel =>
                    refine ⟨j + 1, _, _, by omega, by go_num, rfl, rfl, ?_, ?_, hB2.trans ((below1 wr _).mono hB2.size)⟩
                    · show _ = _
                      rw [any_snoc _ HS2.out, ← Bool.or_assoc, ← hug.out]; unfold greatS; rw [H2.out]; simp [show ¬ s.kind < 7 from by omega, show ¬ s.kind < 12 from by omega]
                    · show _ = _
                      rw [any_snoc _ HS2.out, ← Bool.or_assoc, ← hur.out]; unfold realS; rw [H2.out]; simp; omega
                  case measure => simp [intOf]; omega
          · obtain ⟨z, hz⟩ : ∃ z, classOf s.kind = z := ⟨_, rfl⟩
            have g0 : (z != 2) = true := by rw [bne_iff_ne]; omega
            have H2 := Lib.hid hz
            have HZ : Hid (z ≠ 2) := by rw [← hz]; exact h2
            clear hz h2
            go_wp2_with (go_at_call 11; refine (class_eq s.kind z H2.out _).mono ?_; rintro e w2 ⟨rfl, rfl⟩)
            go_roundw
            case rel =>
              refine ⟨j + 1, ug, ur, by omega, by go_num, rfl, rfl, ?_, ?_, hB2.trans ((below1 wr _).mono hB2.size)⟩
              · show ug = _
                rw [any_snoc _ HS2.out, ← Bool.or_assoc, ← hug.out, show greatS s = false from by unfold greatS; rw [H2.out, beq_eq_false_iff_ne.2 HZ.out, Bool.false_and], Bool.or_false]
              · show ur = _
                rw [any_snoc _ HS2.out, ← Bool.or_assoc, ← hur.out, show realS s = false from by unfold realS; rw [H2.out, beq_eq_false_iff_ne.2 HZ.out, Bool.false_and], Bool.or_false]
            case measure => simp [intOf]; omega
        · obtain rfl : j = m := by omega
          go_wp2_with fail
          go_roundw
          case rel =>
            refine ⟨k + 1, ug, ur, by omega, by go_num, rfl, rfl, ?_, ?_, hB.trans (hB2.mono hB.size)⟩
            · show ug = _
              rw [any_snoc _ HS.out, ← hg.out, hug.out, List.take_of_length_le (by rw [HM.out]; exact Nat.le_refl _)]
            · show ur = _
              rw [any_snoc _ HS.out, ← hr.out, hur.out, List.take_of_length_le (by rw [HM.out]; exact Nat.le_refl _)]
          case measure => simp [intOf]; omega
    · obtain rfl : k = n := by omega
      rw [List.take_of_length_le (by rw [HL.out]; exact Nat.le_refl _)] at hg hr
      have HM : Hid (mixedB Ls = (vg && vr)) := by show _ = _; rw [hg.out, hr.out]; rfl
      clear hg hr
      cases vg <;> cases vr <;> (go_wp2_with fail; go_ret; exact ⟨by rw [HM.out]; rfl, hB⟩)

end Go.Proofs.YtaoonpncnahhgaaDoor
