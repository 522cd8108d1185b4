/-
  laws.reads, where it says yes.
-/
import Derived.Test.YtkkliejgmgmebaaDoorS9
namespace Go.Proofs.YtkkliejgmgmebaaDoor
open Go.RowKit

noncomputable def body12 : Code := ((Tryd.f12.body.bind firstLoop).getD .skip)

structure frm12p (s4 s9 s10 s59 s60 : Value) (a : Act) : Prop where
  df : a.defers = []
  sz : a.tmps.size = 80
  h4 : a.tmps.getD 4 undef = s4
  h9 : a.tmps.getD 9 undef = s9
  h10 : a.tmps.getD 10 undef = s10
  h59 : a.tmps.getD 59 undef = s59
  h60 : a.tmps.getD 60 undef = s60
set_option maxRecDepth 100000 in
theorem frm12 {s4 s9 s10 s59 s60 : Value} {a : Act} (h : frm12p s4 s9 s10 s59 s60 a) : ∃ u : Nat → Value, a = ⟨#[u 0, u 1, u 2, u 3, s4, u 5, u 6, u 7, u 8, s9, s10, u 11, u 12, u 13, u 14, u 15, u 16, u 17, u 18, u 19, u 20, u 21, u 22, u 23, u 24, u 25, u 26, u 27, u 28, u 29, u 30, u 31, u 32, u 33, u 34, u 35, u 36, u 37, u 38, u 39, u 40, u 41, u 42, u 43, u 44, u 45, u 46, u 47, u 48, u 49, u 50, u 51, u 52, u 53, u 54, u 55, u 56, u 57, u 58, s59, s60, u 61, u 62, u 63, u 64, u 65, u 66, u 67, u 68, u 69, u 70, u 71, u 72, u 73, u 74, u 75, u 76, u 77, u 78, u 79], []⟩ := by
  obtain ⟨F, df⟩ := a
  obtain ⟨rfl, hs, rfl, rfl, rfl, rfl, rfl⟩ := h
  refine ⟨fun i => F.getD i undef, ?_⟩
  have e := open_frame F
  rw [hs] at e
  exact congrArg (Act.mk · []) e

set_option maxRecDepth 100000 in
set_option maxHeartbeats 4000000 in
theorem reads_loop (Q0 : Exit → Act → World → Prop) (B : Nat) (ab a b : Option Addr) (n c d d' : Nat) (z0 z2 z3 : Value) (bs ds : List UInt8) (ks : List Bool) (w : World) (A : Act)
    (hB : w.heap[B]? = some (.cells #[z0, .slice ab n c, z2, z3] 40 (0, 0)))
    (h1 : Rd (Old w) w ab n bs) (h2 : Rd (Old w) w a n ds) (h3 : Rv (Old w) w b n (bls ks)) (hn : n ≤ 100000000) (hc : n ≤ c) (hd : n ≤ d) (hd' : n ≤ d')
    (heq : ∀ i : Nat, ks[i]? = some true → bs[i]? = ds[i]?)
    (hA : frm12p (.pointer (some ⟨B, 0, none⟩)) (.slice a n d) (.slice b n d') (.int .i64 (n : Int)) (.int .i64 ((0 : Nat) : Int)) A)
    (hexit : ∀ a' w', frm12p (.pointer (some ⟨B, 0, none⟩)) (.slice a n d) (.slice b n d') (.int .i64 (n : Int)) (.int .i64 (n : Int)) a' → Below w.heap.size w w' → Q0 (.exit 0) a' w') :
    Code.wp Tryd.prog (Code.loop body12) Q0 A w := by
  refine wp_loop_ghost (fun k a' w' => ∃ i : Nat, k = n - i ∧ i ≤ n ∧ frm12p (.pointer (some ⟨B, 0, none⟩)) (.slice a n d) (.slice b n d') (.int .i64 (n : Int)) (.int .i64 (i : Int)) a' ∧ Below w.heap.size w w') n ⟨0, rfl, Nat.zero_le _, hA, Below.refl _ _⟩ ?_
  rintro k a' w' ⟨i, rfl, hi, ha, hb⟩
  obtain ⟨u, rfl⟩ := frm12 ha
  clear ha hA
  have hBw := lt_of_heap hB
  obtain ⟨b0, -⟩ := cells_at ((hb.block B hBw).trans hB)
  have x1 := b0 1
  simp only [List.getElem?_toArray, List.getElem?_cons_succ, List.getElem?_cons_zero] at x1
  have HE := Lib.hid hexit
  have HB := Lib.hid hb
  conv => arg 2; whnf
  by_cases hlt : i < n
  · obtain ⟨k0, hk0⟩ : ∃ k, ks[i]? = some k := ⟨_, List.getElem?_eq_getElem (by have := h3.1; rw [List.length_map] at this; omega)⟩
    obtain ⟨y, hy⟩ : ∃ y, ds[i]? = some y := ⟨_, List.getElem?_eq_getElem (by rw [h2.1]; exact hlt)⟩
    obtain ⟨z, hz⟩ : ∃ z, bs[i]? = some z := ⟨_, List.getElem?_eq_getElem (by rw [h1.1]; exact hlt)⟩
    have e := heq i
    rw [hk0, hy, hz] at e
    rcases h1.2 with h0 | ⟨p1, o1, rfl, hp1, hc1⟩
    · subst h0; cases hz
    rcases h2.2 with h0 | ⟨p2, o2, rfl, hp2, hc2⟩
    · subst h0; cases hy
    rcases h3.2 with h0 | ⟨p3, o3, rfl, hp3, hc3⟩
    · rw [List.map_eq_nil_iff] at h0; subst h0; cases hk0
    have f1 := (hb.cell (p := ⟨p1, o1 + i, none⟩) hp1).trans (hc1 i z hz)
    have f2 := (hb.cell (p := ⟨p2, o2 + i, none⟩) hp2).trans (hc2 i y hy)
    have f3 := (hb.cell (p := ⟨p3, o3 + i, none⟩) hp3).trans (hc3 i (.bool k0) (by rw [List.getElem?_map, hk0]; rfl))
    clear hc1 hc2 hc3 hk0 hy hz heq h1 h2 h3 hB hexit hb b0
    cases k0
    · clear e
      (repeat (first | go_values | go_skip | go_guarded | go_step | go_upon))
      go_quiet (fail)
      (repeat (first | go_values | go_skip | go_guarded | go_step | go_upon))
      exact ⟨n - (i + 1), by omega, i + 1, rfl, by omega, ⟨rfl, rfl, rfl, rfl, rfl, rfl, by go_num⟩, HB.out.trans (below_drewN _ _ _)⟩
    · simp only [true_imp_iff, Option.some.injEq] at e
      subst e
      (repeat (first | go_values | go_skip | go_guarded | go_step | go_upon))
      go_quiet (fail)
      (repeat (first | go_values | go_skip | go_guarded | go_step | go_upon))
      exact ⟨n - (i + 1), by omega, i + 1, rfl, by omega, ⟨rfl, rfl, rfl, rfl, rfl, rfl, by go_num⟩, HB.out.trans (below_drewN _ _ _)⟩
  · obtain rfl : i = n := by omega
    clear heq h1 h2 h3 hB hexit hb b0
    (repeat (first | go_values | go_skip | go_guarded | go_step | go_upon))
    exact HE.out _ _ ⟨rfl, rfl, rfl, rfl, rfl, rfl, rfl⟩ HB.out

set_option maxRecDepth 100000 in
set_option maxHeartbeats 4000000 in
theorem reads_true (Pr : Nat → Prop) (g : Nat) (vd vk vw : Value) (F : Fl) (w : World) (ab : Option Addr) (m c off size : Nat) (rs kd : Int) (rerr : Int) (da : Option Addr) (dn dc : Nat) (strict : Bool) (bs : List UInt8) (h : FileIs Pr w g vd vk vw F) (hl : F.d.length ≤ 100000000) (ho : off ≤ 1000000) (hs : size ≤ 1000000)
    (hm : m = ((F.d.drop off).take size).length) (hr : Rd (Old w) w ab m bs) (hc : m ≤ c) (he : rerr = 0 ∨ rerr = 1) (hst : strict = true → (m < size ↔ rerr = 1)) (heq : ∀ i : Nat, ((F.k.drop off).take size)[i]? = some true → bs[i]? = ((F.d.drop off).take size)[i]?) :
    Calls Tryd.prog 12 #[.agg #[.int .i64 (m : Int), .slice ab m c, .int .i64 rs, .int .i64 rerr], .pointer (some ⟨g, 0, none⟩), .agg #[.int .i64 kd, .int .i64 (off : Int), .int .i64 (size : Int), .slice da dn dc], .bool strict] w fun e w' => e = .returned (.bool true) ∧ Below w.heap.size w w' := by
  have hk1 := Keeps.alloc (Pr := Old w) (w := w) (fun _ h => h) (.cells #[.int .i64 (m : Int), .slice ab m c, .int .i64 rs, .int .i64 rerr] 40)
  have hb1 := below_alloc w (.cells #[.int .i64 (m : Int), .slice ab m c, .int .i64 rs, .int .i64 rerr] 40)
  have hb2 := below_alloc (w.alloc (.cells #[.int .i64 (m : Int), .slice ab m c, .int .i64 rs, .int .i64 rerr] 40)) (.cells #[.int .i64 kd, .int .i64 (off : Int), .int .i64 (size : Int), .slice da dn dc] 32)
  have B2 := Lib.hid (hb1.trans (hb2.mono (by simp)))
  have C1 := Lib.hid (heap_alloc2_old w (.cells #[.int .i64 (m : Int), .slice ab m c, .int .i64 rs, .int .i64 rerr] 40) (.cells #[.int .i64 kd, .int .i64 (off : Int), .int .i64 (size : Int), .slice da dn dc] 32))
  have C2 := Lib.hid (heap_alloc2_new w (.cells #[.int .i64 (m : Int), .slice ab m c, .int .i64 rs, .int .i64 rerr] 40) (.cells #[.int .i64 kd, .int .i64 (off : Int), .int .i64 (size : Int), .slice da dn dc] 32))
  have S2 := Lib.hid (show ((w.alloc (.cells #[.int .i64 (m : Int), .slice ab m c, .int .i64 rs, .int .i64 rerr] 40)).alloc (.cells #[.int .i64 kd, .int .i64 (off : Int), .int .i64 (size : Int), .slice da dn dc] 32)).heap.size = w.heap.size + 2 by simp)
  have H := Lib.hid ((h.box (.cells #[.int .i64 (m : Int), .slice ab m c, .int .i64 rs, .int .i64 rerr] 40)).box (.cells #[.int .i64 kd, .int .i64 (off : Int), .int .i64 (size : Int), .slice da dn dc] 32))
  have HR := Lib.hid hr
  have HQ := Lib.hid heq
  have HM := Lib.hid hm
  have hms : m ≤ size := by rw [hm, List.length_take]; omega
  clear h hr heq hm hk1 hb1 hb2
  have walk : ∀ (st : Bool) (er : Int) (sh : Bool), (er = 0 ∨ er = 1) → decide (m < size) = sh → (st = true → (sh = true ↔ er = 1)) → er = rerr → st = strict →
      Calls Tryd.prog 12 #[.agg #[.int .i64 (m : Int), .slice ab m c, .int .i64 rs, .int .i64 er], .pointer (some ⟨g, 0, none⟩), .agg #[.int .i64 kd, .int .i64 (off : Int), .int .i64 (size : Int), .slice da dn dc], .bool st] w fun e w' => e = .returned (.bool true) ∧ Below w.heap.size w w' := by
    intro st er sh her hsh hst2 he1 he2
    subst he1
    subst he2
    go_enter Tryd.func12, Tryd.ntmps12
    have SH := Lib.hid hsh
    have HST := Lib.hid hst2
    have HER := Lib.hid her
    clear hst he hst2 hsh her
    (repeat (first | go_values | go_skip | go_guarded | go_step | go_upon))
    generalize ((w.alloc (.cells #[.int .i64 (m : Int), .slice ab m c, .int .i64 rs, .int .i64 er] 40)).alloc (.cells #[.int .i64 kd, .int .i64 (off : Int), .int .i64 (size : Int), .slice da dn dc] 32)) = W2 at *
    refine (read_any Pr g vd vk vw F W2 off size H.out hl ho hs).mono ?_
    rintro e w3 ⟨m', a1, c1, a2, c2, q, rfl, rfl, hmc1, hmc2, r1, r2⟩
    obtain rfl : m' = m := r1.1.symm.trans HM.out.symm
    have R1 := Lib.hid r1
    have R2 := Lib.hid r2
    clear r1 r2
    obtain ⟨b0, -⟩ := cells_at C1.out
    obtain ⟨b1, -⟩ := cells_at C2.out
    have x0 := b0 0
    have x1 := b0 1
    have x2 := b0 2
    have x3 := b0 3
    have y2 := b1 2
    simp only [List.getElem?_toArray, List.getElem?_cons_succ, List.getElem?_cons_zero] at x0 x1 x2 x3 y2
    clear b0 b1
    have fin : ∀ (Q0 : Exit → Act → World → Prop) (A : Act), frm12p (.pointer (some ⟨w.heap.size, 0, none⟩)) (.slice a1 m' c1) (.slice a2 m' c2) (.int .i64 (m' : Int)) (.int .i64 ((0 : Nat) : Int)) A →
        (∀ a' w', frm12p (.pointer (some ⟨w.heap.size, 0, none⟩)) (.slice a1 m' c1) (.slice a2 m' c2) (.int .i64 (m' : Int)) (.int .i64 (m' : Int)) a' → Below (W2.drewN q).heap.size (W2.drewN q) w' → Q0 (.exit 0) a' w') → Code.wp Tryd.prog (Code.loop body12) Q0 A (W2.drewN q) := by
      intro Q0 A hA hx
      have hkq := below_keeps (below_drewN W2 q W2.heap.size)
      have hold : ∀ k, Old w k → Old (W2.drewN q) k := fun k h => Nat.lt_of_lt_of_le (show k < w.heap.size from h) B2.out.size
      exact reads_loop Q0 w.heap.size ab a1 a2 m' c c1 c2 _ _ _ bs _ _ (W2.drewN q) A C1.out ((HR.out.keeps (below_keeps (B2.out.trans (below_drewN W2 q _)))).mono hold)
        (R1.out.keeps hkq) (R2.out.keeps hkq) (by omega) hc hmc1 hmc2 HQ.out hA hx
    have FIN := Lib.hid fin
    clear fin
    cases sh
    · have hsm : ¬ m' < size := of_decide_eq_false SH.out
      have hsm' : size ≤ m' := by omega
      clear hsm
      cases st
      · rcases HER.out with rfl | rfl
        · dsimp only
          (repeat (first | go_values | go_skip | go_guarded | go_step | go_upon))
          refine FIN.out _ _ ⟨rfl, rfl, rfl, rfl, rfl, rfl, rfl⟩ ?_
          intro a' w' ha hb
          have HB := Lib.hid ((B2.out.trans (below_drewN W2 q _)).trans (hb.mono (Nat.le_trans B2.out.size (Nat.le_refl _))))
          obtain ⟨u, rfl⟩ := frm12 ha
          clear hb ha
          simp only [Exit.inBlock, ↓reduceIte]
          (repeat (first | go_values | go_skip | go_guarded | go_step | go_upon))
          go_ret
          exact ⟨rfl, HB.out⟩
        · dsimp only
          (repeat (first | go_values | go_skip | go_guarded | go_step | go_upon))
          refine FIN.out _ _ ⟨rfl, rfl, rfl, rfl, rfl, rfl, rfl⟩ ?_
          intro a' w' ha hb
          have HB := Lib.hid ((B2.out.trans (below_drewN W2 q _)).trans (hb.mono (Nat.le_trans B2.out.size (Nat.le_refl _))))
          obtain ⟨u, rfl⟩ := frm12 ha
          clear hb ha
          simp only [Exit.inBlock, ↓reduceIte]
          (repeat (first | go_values | go_skip | go_guarded | go_step | go_upon))
          go_ret
          exact ⟨rfl, HB.out⟩
      · rcases HER.out with rfl | rfl
        · dsimp only
          (repeat (first | go_values | go_skip | go_guarded | go_step | go_upon))
          refine FIN.out _ _ ⟨rfl, rfl, rfl, rfl, rfl, rfl, rfl⟩ ?_
          intro a' w' ha hb
          have HB := Lib.hid ((B2.out.trans (below_drewN W2 q _)).trans (hb.mono (Nat.le_trans B2.out.size (Nat.le_refl _))))
          obtain ⟨u, rfl⟩ := frm12 ha
          clear hb ha
          simp only [Exit.inBlock, ↓reduceIte]
          (repeat (first | go_values | go_skip | go_guarded | go_step | go_upon))
          go_ret
          exact ⟨rfl, HB.out⟩
        · exact absurd ((HST.out rfl).2 rfl) (by decide)
    · have hsm : m' < size := of_decide_eq_true SH.out
      cases st
      · rcases HER.out with rfl | rfl
        · dsimp only
          (repeat (first | go_values | go_skip | go_guarded | go_step | go_upon))
          refine FIN.out _ _ ⟨rfl, rfl, rfl, rfl, rfl, rfl, rfl⟩ ?_
          intro a' w' ha hb
          have HB := Lib.hid ((B2.out.trans (below_drewN W2 q _)).trans (hb.mono (Nat.le_trans B2.out.size (Nat.le_refl _))))
          obtain ⟨u, rfl⟩ := frm12 ha
          clear hb ha
          simp only [Exit.inBlock, ↓reduceIte]
          (repeat (first | go_values | go_skip | go_guarded | go_step | go_upon))
          go_ret
          exact ⟨rfl, HB.out⟩
        · dsimp only
          (repeat (first | go_values | go_skip | go_guarded | go_step | go_upon))
          refine FIN.out _ _ ⟨rfl, rfl, rfl, rfl, rfl, rfl, rfl⟩ ?_
          intro a' w' ha hb
          have HB := Lib.hid ((B2.out.trans (below_drewN W2 q _)).trans (hb.mono (Nat.le_trans B2.out.size (Nat.le_refl _))))
          obtain ⟨u, rfl⟩ := frm12 ha
          clear hb ha
          simp only [Exit.inBlock, ↓reduceIte]
          (repeat (first | go_values | go_skip | go_guarded | go_step | go_upon))
          go_ret
          exact ⟨rfl, HB.out⟩
      · have := (HST.out rfl).1 rfl
        subst this
        dsimp only
        (repeat (first | go_values | go_skip | go_guarded | go_step | go_upon))
        refine FIN.out _ _ ⟨rfl, rfl, rfl, rfl, rfl, rfl, rfl⟩ ?_
        intro a' w' ha hb
        have HB := Lib.hid ((B2.out.trans (below_drewN W2 q _)).trans (hb.mono (Nat.le_trans B2.out.size (Nat.le_refl _))))
        obtain ⟨u, rfl⟩ := frm12 ha
        clear hb ha
        simp only [Exit.inBlock, ↓reduceIte]
        (repeat (first | go_values | go_skip | go_guarded | go_step | go_upon))
        go_ret
        exact ⟨rfl, HB.out⟩
  exact walk strict rerr _ he rfl (fun h => by rw [decide_eq_true_iff]; exact hst h) rfl rfl

end Go.Proofs.YtkkliejgmgmebaaDoor
