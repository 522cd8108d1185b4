/-
  The walks of narrow, Numbers, spec.Collate.
-/
import Derived.Test.YtaoonpncnahhgaaDoorW7
namespace Go.Proofs.YtaoonpncnahhgaaDoor
open Go.RowKit

/-- the number's exponent is usual, or it is 0 -/
def narrowB (x : Nat) : Bool := x % 9223372036854775808 == 0 || (decide (896 < x / 4503599627370496 % 2048) && decide (x / 4503599627370496 % 2048 < 1151))

theorem narrow_core (x E : Nat) (w : World) (hE : E < 2048) (b2 : bits .and .u64 ((x : Int) / 4503599627370496) 2047 = (E : Int)) (z : Int) (hz : IntKind.u64.wrap ((x : Int) * 2) = z) (hzb : z = 0 ∨ z ≠ 0) :
    Calls Tryd.prog 18 #[.int .u64 (x : Int)] w fun e w' => e = .returned (.bool (z == 0 || (decide (896 < E) && decide (E < 1151)))) ∧ w' = w := by
  by_cases h0 : z = 0
  · subst h0
    go_enter Tryd.func18, Tryd.ntmps18
    go_wp2_with fail
    go_ret
    exact ⟨rfl, rfl⟩
  · have h0' : (z == 0) = false := by rw [beq_eq_false_iff_ne]; exact h0
    by_cases h1 : 896 < E
    · go_enter Tryd.func18, Tryd.ntmps18
      go_wp2_with fail
      go_ret
      exact ⟨by simp [h0', h1]; omega, rfl⟩
    · go_enter Tryd.func18, Tryd.ntmps18
      go_wp2_with fail
      go_ret
      exact ⟨by simp [h0', h1], rfl⟩

theorem narrow_any (x : Nat) (w : World) (hx : x < 18446744073709551616) :
    Calls Tryd.prog 18 #[.int .u64 (x : Int)] w fun e w' => e = .returned (.bool (narrowB x)) ∧ w' = w := by
  have b2 : bits .and .u64 ((x : Int) / 4503599627370496) 2047 = ((x / 4503599627370496 % 2048 : Nat) : Int) := by
    rw [show ((x : Int) / 4503599627370496) = ((x / 4503599627370496 : Nat) : Int) from by omega]
    exact and11 (x / 4503599627370496) (by omega)
  have h := narrow_core x _ w (Nat.mod_lt _ (by decide)) b2 _ rfl (by omega)
  have e : (IntKind.u64.wrap ((x : Int) * 2) == 0) = (x % 9223372036854775808 == 0) := by
    rw [IntKind.wrap_u64, Bool.eq_iff_iff]; simp only [beq_iff_eq]; omega
  rw [e] at h
  exact h

/-- all numbers are such -/
def numsB (L : List Sc) : Bool := L.all fun s => !(classOf s.kind == 2) || (parts s).2.2

theorem numbers_any (a : Option Addr) (n c : Nat) (L : List Sc) (w : World) (hl : L.length = n) (hn : n ≤ 9223372036854775807) (h : rdL w.heap.size w a L) :
    Calls Tryd.prog 19 #[.slice a n c] w fun e w' => e = .returned (.bool (numsB L)) ∧ Below w.heap.size w w' := by
  have HH := Lib.hid h
  have HL := Lib.hid hl
  clear h hl
  go_enter Tryd.func19, Tryd.ntmps19
  go_wp2_with fail
  go_loopw [10] (fun i wr => ∃ k : Nat, k ≤ n ∧ i = .int .i64 k ∧ Below w.heap.size w wr ∧ ∀ (j : Nat) (s : Sc), j < k → L[j]? = some s → (!(classOf s.kind == 2) || (parts s).2.2) = true) (fun i _ => n - (intOf i).toNat)
  case atStart => exact ⟨0, Nat.zero_le _, rfl, Below.refl _ _, fun _ _ h => absurd h (by omega)⟩
  case round =>
    obtain ⟨k, hk, rfl, hB, hall⟩ := hrel
    have HA := Lib.hid hall
    clear hall
    by_cases hlt : k < n
    · obtain ⟨s, hs⟩ : ∃ s, L[k]? = some s := ⟨_, List.getElem?_eq_getElem (by rw [HL.out]; exact hlt)⟩
      rcases HH.out with h0 | ⟨b, o, rfl, hb, hc⟩
      · subst h0; simp at hs
      have hsc := (hc k s hs).below hB (Nat.le_refl _) hb
      have e0 := hsc.c0
      have e1 := hsc.c1
      have e2 := hsc.c2
      have e3 := hsc.c3
      have e4 := hsc.c4
      have e5 := hsc.c5
      have hwf := Lib.hid hsc.wf
      have HS := Lib.hid hs
      clear hsc hs hc
      have hstep : (!(classOf s.kind == 2) || (parts s).2.2) = true → ∀ (j : Nat) (t : Sc), j < k + 1 → L[j]? = some t → (!(classOf t.kind == 2) || (parts t).2.2) = true := fun hg j t hj ht => by
        rcases Nat.lt_or_ge j k with h1 | h1
        · exact HA.out j t h1 ht
        · obtain rfl : j = k := by omega
          rw [HS.out] at ht
          cases ht
          exact hg
      have HST := Lib.hid hstep
      clear hstep
      by_cases h2 : classOf s.kind = 2
      · have H2 := Lib.hid h2
        clear h2
        rcases hp : (parts s) with ⟨⟨p1, p2, p3⟩, ⟨q1, q2, q3⟩, ok⟩
        have HP := Lib.hid hp
        clear hp
        go_wp2_with (go_at_call 11; refine (class_eq s.kind 2 H2.out _).mono ?_; rintro e w2 ⟨rfl, rfl⟩)
        have hpa := parts_any s hwf.out
        rw [HP.out] at hpa
        cases ok
        all_goals
          refine (hpa _).mono ?_
          rintro e w2 ⟨rfl, hb2⟩
          have B2 := hB.trans (((below1 wr _).trans (hb2.mono (by simp))).mono hB.size)
          go_wp2_with fail
        · go_ret
          have hno : numsB L = false := List.all_eq_false.2 ⟨s, List.mem_of_getElem? HS.out, by rw [H2.out, HP.out]; simp⟩
          exact ⟨by rw [hno]; rfl, B2.trans ((two_below _ _ _).mono B2.size)⟩
        · go_roundw
          case rel => exact ⟨k + 1, by omega, by go_num, B2.trans ((two_below _ _ _).mono B2.size), HST.out (by rw [HP.out]; simp)⟩
          case measure => simp [intOf]; omega
      · have h2' : (classOf s.kind == 2) = false := by rw [beq_eq_false_iff_ne]; exact h2
        go_wp2_with (go_at_call 11; refine (class_any s.kind _).mono ?_; rintro e w2 ⟨rfl, rfl⟩)
        go_roundw
        case rel => exact ⟨k + 1, by omega, by go_num, hB.trans ((below1 wr _).mono hB.size), HST.out (by rw [h2']; rfl)⟩
        case measure => simp [intOf]; omega
    · go_wp2_with fail
      go_ret
      have hyes : numsB L = true := by
        unfold numsB
        rw [List.all_eq_true]
        intro s hs
        obtain ⟨j, hj⟩ := List.getElem?_of_mem hs
        have : j < L.length := by
          rcases Nat.lt_or_ge j L.length with h1 | h1
          · exact h1
          · rw [List.getElem?_eq_none h1] at hj; cases hj
        exact HA.out j s (by rw [HL.out] at this; omega) hj
      exact ⟨by rw [hyes]; rfl, hB⟩


theorem colS_drop {xs ys : List Sc} {k : Nat} {x y : Sc} (h1 : xs[k]? = some x) (h2 : ys[k]? = some y) : colS (xs.drop k) (ys.drop k) = if cmpS x y ≠ 0 then cmpS x y else colS (xs.drop (k + 1)) (ys.drop (k + 1)) := by
  obtain ⟨l1, rfl⟩ := List.getElem?_eq_some_iff.1 h1
  obtain ⟨l2, rfl⟩ := List.getElem?_eq_some_iff.1 h2
  rw [List.drop_eq_getElem_cons l1, List.drop_eq_getElem_cons l2]
  rfl
theorem colS_end {xs ys : List Sc} (h : xs = [] ∨ ys = []) : colS xs ys = cmpI xs.length ys.length := by
  rcases h with rfl | rfl
  · cases ys <;> simp [colS, cmpI] <;> omega
  · cases xs <;> simp [colS, cmpI] <;> omega

theorem six_load {B : Nat} {w : World} {b o : Nat} {s : Sc} (h : scAt B w b o s) (w' : World) (hb : Below B w w') (hlt : b < B) :
    (w'.cell? ⟨b, o, none⟩ = some (.int .i64 s.kind)) ∧ (w'.cell? ⟨b, o + 1, none⟩ = some (.int .i64 s.int)) ∧ (w'.cell? ⟨b, o + 2, none⟩ = some (.int .u64 (s.uint : Int))) ∧ (w'.cell? ⟨b, o + 3, none⟩ = some (.int .u64 (s.a : Int))) ∧
      (w'.cell? ⟨b, o + 4, none⟩ = some (.int .u64 (s.b : Int))) ∧ (w'.cell? ⟨b, o + 5, none⟩ = some (.slice s.ba s.bn s.bc)) :=
  have g := h.below hb (Nat.le_refl _) hlt
  ⟨g.c0, g.c1, g.c2, g.c3, g.c4, g.c5⟩

set_option maxRecDepth 100000 in
set_option maxHeartbeats 1000000 in
theorem collateS_any (a1 a2 : Option Addr) (n1 n2 c1 c2 : Nat) (xs ys : List Sc) (w : World) (hl1 : xs.length = n1) (hl2 : ys.length = n2) (hn1 : n1 ≤ 2147483647) (hn2 : n2 ≤ 2147483647) (hx : rdL w.heap.size w a1 xs) (hy : rdL w.heap.size w a2 ys) :
    Calls Tryd.prog 16 #[.slice a1 n1 c1, .slice a2 n2 c2] w fun e w' => e = .returned (.int .i64 (colS xs ys)) ∧ Below w.heap.size w w' := by
  have HX := Lib.hid hx
  have HY := Lib.hid hy
  have L1 := Lib.hid hl1
  have L2 := Lib.hid hl2
  clear hx hy hl1 hl2
  by_cases hle : n1 ≤ n2
  all_goals
    go_enter Tryd.func16, Tryd.ntmps16
    go_wp2_with fail
    go_loopw [12] (fun i wr => ∃ k : Nat, k ≤ n1 ∧ k ≤ n2 ∧ i = .int .i64 k ∧ colS (xs.drop k) (ys.drop k) = colS xs ys ∧ Below w.heap.size w wr) (fun i _ => n1 - (intOf i).toNat)
    case atStart => exact ⟨0, Nat.zero_le _, Nat.zero_le _, rfl, rfl, Below.refl _ _⟩
    case round =>
      obtain ⟨k, hk1, hk2, rfl, hcmp, hB⟩ := hrel
      have HC := Lib.hid hcmp
      clear hcmp
      by_cases hlt : k < n1 ∧ k < n2
      · obtain ⟨lt1, lt2⟩ := hlt
        obtain ⟨x, hx⟩ : ∃ x, xs[k]? = some x := ⟨_, List.getElem?_eq_getElem (by rw [L1.out]; omega)⟩
        obtain ⟨y, hy⟩ : ∃ y, ys[k]? = some y := ⟨_, List.getElem?_eq_getElem (by rw [L2.out]; omega)⟩
        rcases HX.out with h0 | ⟨b1, o1, rfl, hb1, hc1⟩
        · subst h0; simp at hx
        rcases HY.out with h0 | ⟨b2, o2, rfl, hb2, hc2⟩
        · subst h0; simp at hy
        have sx := (hc1 k x hx).below hB (Nat.le_refl _) hb1
        have sy := (hc2 k y hy).below hB (Nat.le_refl _) hb2
        have HD := Lib.hid (colS_drop hx hy)
        have hb1' : b1 < wr.heap.size := Nat.lt_of_lt_of_le hb1 hB.size
        have hb2' : b2 < wr.heap.size := Nat.lt_of_lt_of_le hb2 hB.size
        have hf := cmp_any x y
        have SX := Lib.hid sx
        have SY := Lib.hid sy
        have HF := Lib.hid hf
        obtain ⟨c, hcv⟩ : ∃ c, cmpS x y = c := ⟨_, rfl⟩
        have HV := Lib.hid hcv
        clear hcv
        clear hc1 hc2 hx hy sx sy hf HX HY
        go_wp2_with fail
        refine wp_region_quiet (C := fun w' => Below wr.heap.size wr w') (by kernel_rfl) (by kernel_rfl) ⟨rfl, rfl, rfl, Nat.le_refl _, fun _ _ => rfl⟩ ?_
        have cx := fun w' (h : Below wr.heap.size wr w') => six_load (SX.out.mono hB.size) w' h hb1'
        have cy := fun w' (h : Below wr.heap.size wr w') => six_load (SY.out.mono hB.size) w' h hb2'
        simp only []
        refine wpQuiet_val rfl (.slice (some ⟨b1, o1, none⟩) n1 c1) (fun w' hw' => ?_) ?_
        · simp [Oper.quietAt, Oper.quietUpon, go_sem, lt1, lt2]
        simp only [Act.put, List.setIfInBounds_toArray, List.set_cons_zero, List.set_cons_succ]
        refine wpQuiet_val rfl (.int .i64 (k : Int)) (fun w' hw' => ?_) ?_
        · simp [Oper.quietAt, Oper.quietUpon, go_sem, lt1, lt2]
        simp only [Act.put, List.setIfInBounds_toArray, List.set_cons_zero, List.set_cons_succ]
        refine wpQuiet_val rfl (.pointer (some ⟨b1, o1 + k * 6, none⟩)) (fun w' hw' => ?_) ?_
        · clear cx cy; go_simp
        simp only [Act.put, List.setIfInBounds_toArray, List.set_cons_zero, List.set_cons_succ]
        refine wpQuiet_val rfl (x.v) (fun w' hw' => ?_) ?_
        · obtain ⟨g0, g1, g2, g3, g4, g5⟩ := cx w' hw'; simp [Oper.quietAt, Oper.quietUpon, go_sem, g0, g1, g2, g3, g4, g5]
        simp only [Act.put, List.setIfInBounds_toArray, List.set_cons_zero, List.set_cons_succ]
        refine wpQuiet_val rfl (.slice (some ⟨b2, o2, none⟩) n2 c2) (fun w' hw' => ?_) ?_
        · simp [Oper.quietAt, Oper.quietUpon, go_sem, lt1, lt2]
        simp only [Act.put, List.setIfInBounds_toArray, List.set_cons_zero, List.set_cons_succ]
        refine wpQuiet_val rfl (.int .i64 (k : Int)) (fun w' hw' => ?_) ?_
        · simp [Oper.quietAt, Oper.quietUpon, go_sem, lt1, lt2]
        simp only [Act.put, List.setIfInBounds_toArray, List.set_cons_zero, List.set_cons_succ]
        refine wpQuiet_val rfl (.pointer (some ⟨b2, o2 + k * 6, none⟩)) (fun w' hw' => ?_) ?_
        · clear cx cy; go_simp
        simp only [Act.put, List.setIfInBounds_toArray, List.set_cons_zero, List.set_cons_succ]
        refine wpQuiet_val rfl (y.v) (fun w' hw' => ?_) ?_
        · obtain ⟨g0, g1, g2, g3, g4, g5⟩ := cy w' hw'; simp [Oper.quietAt, Oper.quietUpon, go_sem, g0, g1, g2, g3, g4, g5]
        simp only [Act.put, List.setIfInBounds_toArray, List.set_cons_zero, List.set_cons_succ]
        refine wpQuiet_val rfl (.int .i64 c) (fun w' hw' => ?_) ?_
        · simp only [Oper.quietAt, go_sem]; simp [go_sem, Oper.quietUpon]; exact (HF.out w' SX.out.wf SY.out.wf (rdB_mono (SX.out.rd.below hw' hB.size) (Nat.le_trans hB.size hw'.size)) (rdB_mono (SY.out.rd.below hw' hB.size) (Nat.le_trans hB.size hw'.size))).mono fun _ _ ⟨g1, g2⟩ => ⟨g1.trans (ret_i HV.out), hw'.trans (g2.mono hw'.size)⟩
        simp only [Act.put, List.setIfInBounds_toArray, List.set_cons_zero, List.set_cons_succ]
        refine wpQuiet_val rfl (.int .i64 c) (fun w' hw' => ?_) ?_
        · simp [Oper.quietAt, Oper.quietUpon, go_sem]
        simp only [Act.put, List.setIfInBounds_toArray, List.set_cons_zero, List.set_cons_succ]
        refine wpQuiet_nil fun w' hw' => ?_
        clear cx cy SX SY HF
        have HW := hB.trans (hw'.mono hB.size)
        clear hw'
        by_cases h0 : c = 0
        · subst h0
          go_wp2_with fail
          go_roundw
          case rel => exact ⟨k + 1, by omega, by omega, by go_num, by rw [← HC.out, HD.out, HV.out]; simp, HW⟩
          case measure => simp [intOf]; omega
        · have h0' : (c != 0) = true := by rw [bne_iff_ne]; exact h0
          go_wp2_with fail
          go_ret
          exact ⟨ret_i (by rw [← HC.out, HD.out, HV.out]; simp [h0]), HW⟩
      · have he := colS_end (xs := xs.drop k) (ys := ys.drop k) (by
          rcases Nat.lt_or_ge k n1 with h | h
          · exact .inr (List.drop_eq_nil_of_le (by rw [L2.out]; omega))
          · exact .inl (List.drop_eq_nil_of_le (by rw [L1.out]; omega)))
        rw [List.length_drop, List.length_drop, L1.out, L2.out] at he
        have hv : cmpI ((n1 - k : Nat) : Int) ((n2 - k : Nat) : Int) = cmpI (n1 : Int) (n2 : Int) := by unfold cmpI; (repeat' split) <;> omega
        have HE := Lib.hid ((HC.out.symm.trans he).trans hv)
        clear he hv HX HY HC
        have hcc := less_nat n1 n2 (by omega) (by omega)
        rcases hp : nrm false n1 0 with ⟨p1, p2, p3⟩
        rcases hq : nrm false n2 0 with ⟨q1, q2, q3⟩
        have m1 : p2 < 18446744073709551616 := by have := nrm_m false n1 0 (by omega); rw [hp] at this; exact this
        have m2 : q2 < 18446744073709551616 := by have := nrm_m false n2 0 (by omega); rw [hq] at this; exact this
        rw [hp, hq] at hcc
        have HP := Lib.hid hp
        have HQ := Lib.hid hq
        have HCC := Lib.hid hcc
        clear hp hq hcc
        go_wp2_with fail
        refine (normal_any false n1 0 wr (by omega) (by omega) (by omega)).mono ?_
        rw [HP.out]
        rintro e w1 ⟨rfl, hb1⟩
        go_wp2_with fail
        refine (normal_any false n2 0 w1 (by omega) (by omega) (by omega)).mono ?_
        rw [HQ.out]
        rintro e w2 ⟨rfl, hb2⟩
        go_wp2_with fail
        refine (less_any ⟨p1, p2, p3⟩ ⟨q1, q2, q3⟩ w2 m1 m2).mono ?_
        rw [HCC.out, ← HE.out]
        rintro e w3 ⟨rfl, hb3⟩
        go_wp2_with fail
        go_ret
        have B1 := hB.trans (hb1.mono hB.size)
        have B2 := B1.trans (hb2.mono B1.size)
        exact ⟨rfl, B2.trans (hb3.mono B2.size)⟩

end Go.Proofs.YtaoonpncnahhgaaDoor
