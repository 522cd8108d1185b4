/-
  File.size: a round of its loop appends a zero to each of the three slices, in whatever order.
-/
import Derived.Test.YtkkliejgmgmebaaGreatDoorSa
import Derived.Test.YtkkliejgmgmebaaGreatDoorBa
namespace Go.Proofs.YtkkliejgmgmebaaGreatDoor
open Go.RowKit

noncomputable def reg18 : Code := ((Tryz.f33.body.bind (regionOf 1)).getD .skip)
noncomputable def ops18 : Array Oper := match reg18 with | .region _ ops _ => ops | _ => #[]

structure frm18p (s0 s1 : Value) (a : Act) : Prop where
  df : a.defers = []
  sz : a.tmps.size = 65
  h0 : a.tmps.getD 0 undef = s0
  h1 : a.tmps.getD 1 undef = s1
set_option maxRecDepth 100000 in
theorem frm18 {s0 s1 : Value} {a : Act} (h : frm18p s0 s1 a) : ∃ u : Nat → Value, a = ⟨#[s0, s1, u 2, u 3, u 4, u 5, u 6, u 7, u 8, u 9, u 10, u 11, u 12, u 13, u 14, u 15, u 16, u 17, u 18, u 19, u 20, u 21, u 22, u 23, u 24, u 25, u 26, u 27, u 28, u 29, u 30, u 31, u 32, u 33, u 34, u 35, u 36, u 37, u 38, u 39, u 40, u 41, u 42, u 43, u 44, u 45, u 46, u 47, u 48, u 49, u 50, u 51, u 52, u 53, u 54, u 55, u 56, u 57, u 58, u 59, u 60, u 61, u 62, u 63, u 64], []⟩ := by
  obtain ⟨F, df⟩ := a
  obtain ⟨rfl, hs, rfl, rfl⟩ := h
  refine ⟨fun i => F.getD i undef, ?_⟩
  have e := open_frame F
  rw [hs] at e
  exact congrArg (Act.mk · []) e

abbrev ls18 (l6 l7 l8 l12 l13 l14 l18 l19 l20 : Bool) : Array Bool := #[true, true, true, true, true, true, l6, l7, l8, true, true, true, l12, l13, l14, true, true, true, l18, l19, l20, false, false, false, false, false, false, false, false, false]

/-- which operations may come up -/
theorem ready18 : ∀ l6 l7 l8 l12 l13 l14 l18 l19 : Bool, (fun r : List Nat => !r.isEmpty && r.all fun i =>
      (i == 6 && !l6) || (i == 7 && !l7) || (i == 8 && !l8 && l6 && l7) || (i == 12 && !l12) || (i == 13 && !l13) || (i == 14 && !l14 && l8 && l12 && l13) || (i == 18 && !l18) || (i == 19 && !l19) || (i == 20 && l14 && l18 && l19))
    (Region.ready .any ops18 (ls18 l6 l7 l8 l12 l13 l14 l18 l19 false)) = true := by decide +kernel

set_option maxRecDepth 100000 in
/-- what every operation hands on -/
def I18 (Pr : Nat → Prop) (g : FP) (W : World) (F : Fl) (vd vk vw : Value) (n : Int) (u : Nat → Value) (listed : Array Bool) (a : Act) (w : World) : Prop :=
  ∃ (l6 l7 l8 l12 l13 l14 l18 l19 l20 : Bool) (s17 s18 s19 s23 s24 s25 s29 s30 s31 : Value) (lab : Nat → Nat),
    listed = ls18 l6 l7 l8 l12 l13 l14 l18 l19 l20 ∧
    a = ⟨#[.pointer (some ⟨g.b, g.o, none⟩), .int .i64 n, u 2, u 3, u 4, u 5, u 6, u 7, u 8, u 9, u 10, .pointer (some ⟨g.b, g.o, none⟩), .pointer (some ⟨g.b, g.o, none⟩), .pointer (some ⟨g.b, g.o, none⟩), .pointer (some ⟨g.b, g.o, none⟩), .pointer (some ⟨g.b, g.o, none⟩), .pointer (some ⟨g.b, g.o, none⟩), s17, s18, s19, .pointer (some ⟨g.b, g.o, none⟩), .pointer (some ⟨g.b, g.o, none⟩), .pointer (some ⟨g.b, g.o + 1, none⟩), s23, s24, s25, .pointer (some ⟨g.b, g.o, none⟩), .pointer (some ⟨g.b, g.o, none⟩), .pointer (some ⟨g.b, g.o + 2, none⟩), s29, s30, s31, u 32, u 33, u 34, u 35, u 36, u 37, u 38, u 39, u 40, u 41, u 42, u 43, u 44, u 45, u 46, u 47, u 48, u 49, u 50, u 51, u 52, u 53, u 54, u 55, u 56, u 57, u 58, u 59, u 60, u 61, u 62, u 63, u 64], []⟩ ∧
    Keeps (fun k => Pr k ∨ k = g.b) W w ∧
    Strand Pr g.b lab w 0 5 (.int .u8 0) vd F.d.length (u8s F.d) l6 l7 l8 s17 s18 s19 ∧ Strand Pr g.b lab w 1 4 (.bool true) vk F.d.length (bls F.k) l12 l13 l14 s23 s24 s25 ∧ Strand Pr g.b lab w 2 4 (.bool false) vw F.d.length (bls F.r) l18 l19 l20 s29 s30 s31 ∧
    (l8 = true → l6 = true ∧ l7 = true) ∧ (l14 = true → l8 = true ∧ l12 = true ∧ l13 = true) ∧ (l20 = true → l14 = true ∧ l18 = true ∧ l19 = true)

set_option maxRecDepth 100000 in
set_option maxHeartbeats 4000000 in
theorem size_r1 (Pr : Nat → Prop) (g : FP) (vd vk vw : Value) (F : Fl) (W : World) (n : Int) (u : Nat → Value) (hin : Inw Pr W) (h : FileIs Pr W g vd vk vw F) (hl : F.d.length ≤ 8589934592) :
    Code.wp Tryz.prog reg18 (fun e a' w' => e = .normal ∧ frm18p (.pointer (some ⟨g.b, g.o, none⟩)) (.int .i64 n) a' ∧
      ∃ vd' vk' vw', FileIs Pr w' g vd' vk' vw' ⟨F.d ++ [0], F.k ++ [true], F.r ++ [false]⟩ ∧ Keeps Pr W w')
      ⟨#[.pointer (some ⟨g.b, g.o, none⟩), .int .i64 n, u 2, u 3, u 4, u 5, u 6, u 7, u 8, u 9, u 10, u 11, u 12, u 13, u 14, u 15, u 16, u 17, u 18, u 19, u 20, u 21, u 22, u 23, u 24, u 25, u 26, u 27, u 28, u 29, u 30, u 31, u 32, u 33, u 34, u 35, u 36, u 37, u 38, u 39, u 40, u 41, u 42, u 43, u 44, u 45, u 46, u 47, u 48, u 49, u 50, u 51, u 52, u 53, u 54, u 55, u 56, u 57, u 58, u 59, u 60, u 61, u 62, u 63, u 64], []⟩ W := by
  conv => arg 2; whnf
  refine wp_region_any (by kernel_rfl) ?_
  change wpAny _ _ _ _ _ _ _ (World.drew _)
  refine wpAny_take (i := 0) (v := .pointer (some ⟨g.b, g.o, none⟩)) rfl (by kernel_rfl) (by kernel_rfl) (by kernel_rfl) (fun _ _ _ h => by cases h.1) (Or.inl ⟨by rfl, fun w => ?_⟩) ?_
  · go_simp
  refine wpAny_take (i := 1) (v := .pointer (some ⟨g.b, g.o, none⟩)) rfl (by kernel_rfl) (by kernel_rfl) (by kernel_rfl) (fun _ _ _ h => by cases h.1) (Or.inl ⟨by rfl, fun w => ?_⟩) ?_
  · go_simp
  refine wpAny_take (i := 2) (v := .pointer (some ⟨g.b, g.o, none⟩)) rfl (by kernel_rfl) (by kernel_rfl) (by kernel_rfl) (fun _ _ _ h => by cases h.1) (Or.inl ⟨by rfl, fun w => ?_⟩) ?_
  · go_simp
  refine wpAny_take (i := 3) (v := .pointer (some ⟨g.b, g.o, none⟩)) rfl (by kernel_rfl) (by kernel_rfl) (by kernel_rfl) (fun _ _ _ h => by cases h.1) (Or.inl ⟨by rfl, fun w => ?_⟩) ?_
  · go_simp
  refine wpAny_take (i := 4) (v := .pointer (some ⟨g.b, g.o, none⟩)) rfl (by kernel_rfl) (by kernel_rfl) (by kernel_rfl) (fun _ _ _ h => by cases h.1) (Or.inl ⟨by rfl, fun w => ?_⟩) ?_
  · go_simp
  refine wpAny_take (i := 5) (v := .pointer (some ⟨g.b, g.o, none⟩)) rfl (by kernel_rfl) (by kernel_rfl) (by kernel_rfl) (fun _ _ _ h => by cases h.1) (Or.inl ⟨by rfl, fun w => ?_⟩) ?_
  · go_simp
  refine wpAny_take (i := 9) (v := .pointer (some ⟨g.b, g.o, none⟩)) rfl (by kernel_rfl) (by kernel_rfl) (by kernel_rfl) (fun _ _ _ h => by cases h.1) (Or.inl ⟨by rfl, fun w => ?_⟩) ?_
  · go_simp
  refine wpAny_take (i := 10) (v := .pointer (some ⟨g.b, g.o, none⟩)) rfl (by kernel_rfl) (by kernel_rfl) (by kernel_rfl) (fun _ _ _ h => by cases h.1) (Or.inl ⟨by rfl, fun w => ?_⟩) ?_
  · go_simp
  refine wpAny_take (i := 11) (v := .pointer (some ⟨g.b, g.o + 1, none⟩)) rfl (by kernel_rfl) (by kernel_rfl) (by kernel_rfl) (fun _ _ _ h => by cases h.1) (Or.inl ⟨by rfl, fun w => ?_⟩) ?_
  · go_simp
  refine wpAny_take (i := 15) (v := .pointer (some ⟨g.b, g.o, none⟩)) rfl (by kernel_rfl) (by kernel_rfl) (by kernel_rfl) (fun _ _ _ h => by cases h.1) (Or.inl ⟨by rfl, fun w => ?_⟩) ?_
  · go_simp
  refine wpAny_take (i := 16) (v := .pointer (some ⟨g.b, g.o, none⟩)) rfl (by kernel_rfl) (by kernel_rfl) (by kernel_rfl) (fun _ _ _ h => by cases h.1) (Or.inl ⟨by rfl, fun w => ?_⟩) ?_
  · go_simp
  refine wpAny_take (i := 17) (v := .pointer (some ⟨g.b, g.o + 2, none⟩)) rfl (by kernel_rfl) (by kernel_rfl) (by kernel_rfl) (fun _ _ _ h => by cases h.1) (Or.inl ⟨by rfl, fun w => ?_⟩) ?_
  · go_simp
  refine wpAny_inv (I18 Pr g W F vd vk vw n u) ?_ _ _ _ _ ?_ ?_
  · rintro listed a w ⟨l6, l7, l8, l12, l13, l14, l18, l19, l20, s17, s18, s19, s23, s24, s25, s29, s30, s31, lab, rfl, rfl, hk, S0, S1, S2, c8, c14, c20⟩
    obtain ⟨x0, x1, x2, y0, y1, y2⟩ := (show FileIs (fun _ => False) W g vd vk vw F from h.widen fun _ _ _ h => h).cells
    have hgb := hk.block g.b (.inr rfl)
    have e0 : w.cell? ⟨g.b, g.o, none⟩ = some vd := (World.cell?_of_block (a := ⟨g.b, g.o, none⟩) hgb).trans x0
    have e1 : w.cell? ⟨g.b, g.o + 1, none⟩ = some vk := (World.cell?_of_block (a := ⟨g.b, g.o + 1, none⟩) hgb).trans x1
    have e2 : w.cell? ⟨g.b, g.o + 2, none⟩ = some vw := (World.cell?_of_block (a := ⟨g.b, g.o + 2, none⟩) hgb).trans x2
    have hgW : g.b < W.heap.size := lt_of_heap h.cell
    have hgw : g.b < w.heap.size := Nat.lt_of_lt_of_le hgW hk.size
    have hinw : Inw Pr w := hin.mono hk.size
    have hing : Inw (fun k => Pr k ∨ k = g.b) w := fun k hk => hk.elim (hinw k) (fun e => e ▸ hgw)
    obtain ⟨i0, hi, hz0, hz1, hz2⟩ := info_parts infoU8
    obtain ⟨j0, hj, jz0, jz1, jz2⟩ := info_parts infoBool
    have ho : ∀ (o : Obj) (k : Nat), k < w.heap.size → (w.alloc o).heap[k]? = w.heap[k]? := fun o k h => Below.heap_alloc _ _ _ h
    cases l20
    · right
      have hr := ready18 l6 l7 l8 l12 l13 l14 l18 l19
      simp only [Bool.and_eq_true, Bool.not_eq_true'] at hr
      refine ⟨fun h0 => ?_, fun i hi' => ?_⟩
      · have h1 := hr.1
        rw [show Region.ready .any ops18 (ls18 l6 l7 l8 l12 l13 l14 l18 l19 false) = [] from h0] at h1
        cases h1
      have hc := List.all_eq_true.1 hr.2 i hi'
      simp only [Bool.or_eq_true, Bool.and_eq_true, beq_iff_eq, Bool.not_eq_true'] at hc
      clear hr hi'
      rcases hc with ((((((((⟨rfl, rfl⟩ | ⟨rfl, rfl⟩) | ⟨⟨⟨rfl, rfl⟩, rfl⟩, rfl⟩) | ⟨rfl, rfl⟩) | ⟨rfl, rfl⟩) | ⟨⟨⟨⟨rfl, rfl⟩, rfl⟩, rfl⟩, rfl⟩) | ⟨rfl, rfl⟩) | ⟨rfl, rfl⟩) | ⟨⟨⟨rfl, rfl⟩, rfl⟩, rfl⟩)
      · refine wpOp_value (v := vd) (w' := w) rfl rfl (by go_simp) ?_
        exact ⟨true, l7, l8, l12, l13, l14, l18, l19, false, vd, s18, s19, s23, s24, s25, s29, s30, s31, lab, rfl, rfl, hk, S0.load, S1, S2, fun h => ⟨rfl, (c8 h).2⟩, c14, c20⟩
      · refine wpOp_value (v := .slice (some ⟨w.heap.size, 0, none⟩) 1 1) (w' := w.alloc (.cells #[.int .u8 0] 5)) rfl rfl (by go_simp) ?_
        exact ⟨l6, true, l8, l12, l13, l14, l18, l19, false, s17, .slice (some ⟨w.heap.size, 0, none⟩) 1 1, s19, s23, s24, s25, s29, s30, s31, labNew lab w 3, rfl, rfl, hk.trans (Keeps.alloc hing _), S0.laid, S1.stable (by simp) (labNew_old _ _ _) (fun k h _ => ho _ k h), S2.stable (by simp) (labNew_old _ _ _) (fun k h _ => ho _ k h), fun h => ⟨(c8 h).1, rfl⟩, c14, c20⟩
      · obtain ⟨v', w', hrun, hS, hsz, hoth, hkp⟩ := S0.append (P := Tryz.prog) hinw hgw 22 22 i0 (.int .u8 0) Tryz.underlying22 hi hz0 hz1 hz2 rfl rfl (by omega)
        refine wpOp_value (v := v') (w' := w') rfl rfl (by simp [execOp, resolve, invoke, builtin, Act.eval, hrun, Result.andThen]) ?_
        exact ⟨true, true, true, l12, l13, l14, l18, l19, false, s17, s18, v', s23, s24, s25, s29, s30, s31, labNew lab w 0, rfl, rfl, hk.trans hkp, hS, S1.stable hsz (labNew_old _ _ _) (fun k h1 h2 => hoth k h1 (by omega)), S2.stable hsz (labNew_old _ _ _) (fun k h1 h2 => hoth k h1 (by omega)), fun _ => ⟨rfl, rfl⟩, fun h => ⟨rfl, (c14 h).2⟩, c20⟩
      · refine wpOp_value (v := vk) (w' := w) rfl rfl (by go_simp) ?_
        exact ⟨l6, l7, l8, true, l13, l14, l18, l19, false, s17, s18, s19, vk, s24, s25, s29, s30, s31, lab, rfl, rfl, hk, S0, S1.load, S2, c8, fun h => ⟨(c14 h).1, rfl, (c14 h).2.2⟩, c20⟩
      · refine wpOp_value (v := .slice (some ⟨w.heap.size, 0, none⟩) 1 1) (w' := w.alloc (.cells #[.bool true] 4)) rfl rfl (by go_simp) ?_
        exact ⟨l6, l7, l8, l12, true, l14, l18, l19, false, s17, s18, s19, s23, .slice (some ⟨w.heap.size, 0, none⟩) 1 1, s25, s29, s30, s31, labNew lab w 4, rfl, rfl, hk.trans (Keeps.alloc hing _), S0.stable (by simp) (labNew_old _ _ _) (fun k h _ => ho _ k h), S1.laid, S2.stable (by simp) (labNew_old _ _ _) (fun k h _ => ho _ k h), c8, fun h => ⟨(c14 h).1, (c14 h).2.1, rfl⟩, c20⟩
      · obtain ⟨v', w', hrun, hS, hsz, hoth, hkp⟩ := S1.append (P := Tryz.prog) hinw hgw 32 32 j0 (.bool false) Tryz.underlying32 hj jz0 jz1 jz2 rfl rfl (by omega)
        refine wpOp_value (v := v') (w' := w') rfl rfl (by simp [execOp, resolve, invoke, builtin, Act.eval, hrun, Result.andThen]) ?_
        exact ⟨l6, l7, true, true, true, true, l18, l19, false, s17, s18, s19, s23, s24, v', s29, s30, s31, labNew lab w 1, rfl, rfl, hk.trans hkp, S0.stable hsz (labNew_old _ _ _) (fun k h1 h2 => hoth k h1 (by omega)), hS, S2.stable hsz (labNew_old _ _ _) (fun k h1 h2 => hoth k h1 (by omega)), c8, fun _ => ⟨rfl, rfl, rfl⟩, fun h => ⟨rfl, (c20 h).2⟩⟩
      · refine wpOp_value (v := vw) (w' := w) rfl rfl (by go_simp) ?_
        exact ⟨l6, l7, l8, l12, l13, l14, true, l19, false, s17, s18, s19, s23, s24, s25, vw, s30, s31, lab, rfl, rfl, hk, S0, S1, S2.load, c8, c14, fun h => by cases h⟩
      · refine wpOp_value (v := .slice (some ⟨w.heap.size, 0, none⟩) 1 1) (w' := w.alloc (.cells #[.bool false] 4)) rfl rfl (by go_simp) ?_
        exact ⟨l6, l7, l8, l12, l13, l14, l18, true, false, s17, s18, s19, s23, s24, s25, s29, .slice (some ⟨w.heap.size, 0, none⟩) 1 1, s31, labNew lab w 5, rfl, rfl, hk.trans (Keeps.alloc hing _), S0.stable (by simp) (labNew_old _ _ _) (fun k h _ => ho _ k h), S1.stable (by simp) (labNew_old _ _ _) (fun k h _ => ho _ k h), S2.laid, c8, c14, fun h => by cases h⟩
      · obtain ⟨v', w', hrun, hS, hsz, hoth, hkp⟩ := S2.append (P := Tryz.prog) hinw hgw 32 32 j0 (.bool false) Tryz.underlying32 hj jz0 jz1 jz2 rfl rfl (by omega)
        refine wpOp_value (v := v') (w' := w') rfl rfl (by simp [execOp, resolve, invoke, builtin, Act.eval, hrun, Result.andThen]) ?_
        exact ⟨l6, l7, l8, l12, l13, true, true, true, true, s17, s18, s19, s23, s24, s25, s29, s30, v', labNew lab w 2, rfl, rfl, hk.trans hkp, S0.stable hsz (labNew_old _ _ _) (fun k h1 h2 => hoth k h1 (by omega)), S1.stable hsz (labNew_old _ _ _) (fun k h1 h2 => hoth k h1 (by omega)), hS, c8, c14, fun _ => ⟨rfl, rfl, rfl⟩⟩
    · left
      obtain ⟨rfl, rfl, rfl⟩ := c20 rfl
      obtain ⟨rfl, rfl, rfl⟩ := c14 rfl
      obtain ⟨rfl, rfl⟩ := c8 rfl
      intro fuel hf
      obtain ⟨m, rfl⟩ : ∃ m, fuel = m + 9 := ⟨fuel - 9, by
        have h9 : todo ops18.size (ls18 true true true true true true true true true) = 9 := by decide +kernel
        have h9' : todo ops18.size (ls18 true true true true true true true true true) ≤ fuel := hf
        omega⟩
      have R0 := S0.after rfl
      have R1 := S1.after rfl
      have R2 := S2.after rfl
      obtain ⟨a0, q0, rfl, -⟩ := R0.slice
      obtain ⟨a1, q1, rfl, -⟩ := R1.slice
      obtain ⟨a2, q2, rfl, -⟩ := R2.slice
      have g0 : w.frozen? ⟨g.b, g.o, none⟩ = false := (World.frozen?_of_block (a := ⟨g.b, g.o, none⟩) hgb).trans y0
      have g1 : w.frozen? ⟨g.b, g.o + 1, none⟩ = false := (World.frozen?_of_block (a := ⟨g.b, g.o + 1, none⟩) hgb).trans y1
      have g2 : w.frozen? ⟨g.b, g.o + 2, none⟩ = false := (World.frozen?_of_block (a := ⟨g.b, g.o + 2, none⟩) hgb).trans y2
      clear S0 S1 S2 c8 c14 c20 ho hing hinw hf
      have HK := Lib.hid hk
      have RR0 := Lib.hid R0
      have RR1 := Lib.hid R1
      have RR2 := Lib.hid R2
      have HG := Lib.hid (hgb.trans h.cell)
      clear hk R0 R1 R2 hgb x0 x1 x2 y0 y1 y2
      refine wpAny_ready (rs := [21]) (by kernel_rfl) (by simp) (AllReady.cons rfl (fun K hK => ?_) AllReady.nil)
      go_simp
      refine hK _ _ ?_
      clear hK K
      refine wpAny_ready (rs := [22]) (by kernel_rfl) (by simp) (AllReady.cons rfl (fun K hK => ?_) AllReady.nil)
      go_simp
      refine hK _ _ ?_
      clear hK K
      refine wpAny_ready (rs := [23]) (by kernel_rfl) (by simp) (AllReady.cons rfl (fun K hK => ?_) AllReady.nil)
      go_simp
      refine hK _ _ ?_
      clear hK K
      refine wpAny_ready (rs := [24]) (by kernel_rfl) (by simp) (AllReady.cons rfl (fun K hK => ?_) AllReady.nil)
      go_simp
      refine hK _ _ ?_
      clear hK K
      refine wpAny_ready (rs := [25]) (by kernel_rfl) (by simp) (AllReady.cons rfl (fun K hK => ?_) AllReady.nil)
      go_simp
      refine hK _ _ ?_
      clear hK K
      refine wpAny_ready (rs := [26]) (by kernel_rfl) (by simp) (AllReady.cons rfl (fun K hK => ?_) AllReady.nil)
      go_simp
      refine hK _ _ ?_
      clear hK K
      refine wpAny_ready (rs := [27]) (by kernel_rfl) (by simp) (AllReady.cons rfl (fun K hK => ?_) AllReady.nil)
      go_simp
      refine hK _ _ ?_
      clear hK K
      refine wpAny_ready (rs := [28]) (by kernel_rfl) (by simp) (AllReady.cons rfl (fun K hK => ?_) AllReady.nil)
      go_simp
      refine hK _ _ ?_
      clear hK K
      refine wpAny_ready (rs := [29]) (by kernel_rfl) (by simp) (AllReady.cons rfl (fun K hK => ?_) AllReady.nil)
      go_simp
      refine hK _ _ ?_
      clear hK K
      refine wpAny_done (by kernel_rfl) ?_ _
      have own_of : ∀ (j : Nat) (e : TypeId) (v : Value) (n : Nat) (xs : List Value), Row (Lb Pr g.b lab j) w e 1 v n xs → ∀ k, v.ownBlock = some k → ¬ Pr k ∧ lab k = j := fun j e v n xs hR k hk => by
        obtain ⟨-, h2, -⟩ := hR.own hk
        exact ⟨fun h => h2 (.inl h), Classical.byContradiction fun hne => h2 (.inr (.inr hne))⟩
      have hV : FileVal Pr w (.slice a0 (F.d.length + 1) q0) (.slice a1 (F.d.length + 1) q1) (.slice a2 (F.d.length + 1) q2) ⟨F.d ++ [0], F.k ++ [true], F.r ++ [false]⟩ := by
        refine ⟨?_, ?_, ?_, fun k h1 h2 => ?_⟩
        · have := RR0.out.widen (Pr' := Pr) fun k hk => (own_of _ _ _ _ _ RR0.out k hk).1
          simpa using this
        · have := RR1.out.widen (Pr' := Pr) fun k hk => (own_of _ _ _ _ _ RR1.out k hk).1
          simpa using this
        · have := RR2.out.widen (Pr' := Pr) fun k hk => (own_of _ _ _ _ _ RR2.out k hk).1
          simpa using this
        · have e1 := (own_of _ _ _ _ _ RR1.out k h1).2
          have e2 := (own_of _ _ _ _ _ RR2.out k h2).2
          omega
      obtain ⟨hF, hK2⟩ := file_store3 HG.out h.lo h.ng hV
      exact ⟨rfl, ⟨rfl, rfl, rfl, rfl⟩, _, _, _, hF, (HK.out.mono fun _ h => .inl h).trans hK2⟩
  · decide +kernel
  · have gd : ∀ k, vd.ownBlock = some k → k ≠ g.b := fun k hk e => h.v.rd.neElem h.cell (by decide) (e ▸ hk)
    have gk : ∀ k, vk.ownBlock = some k → k ≠ g.b := fun k hk e => h.v.rk.neElem h.cell (by decide) (e ▸ hk)
    have gw : ∀ k, vw.ownBlock = some k → k ≠ g.b := fun k hk e => h.v.rw.neElem h.cell (by decide) (e ▸ hk)
    have dk : ∀ k, vd.ownBlock = some k → vk.ownBlock ≠ some k := fun k hk => h.v.rd.neRow h.v.rk (by decide) hk
    have dw : ∀ k, vd.ownBlock = some k → vw.ownBlock ≠ some k := fun k hk => h.v.rd.neRow h.v.rw (by decide) hk
    refine ⟨false, false, false, false, false, false, false, false, false, u 17, u 18, u 19, u 23, u 24, u 25, u 29, u 30, u 31, fun k => if vd.ownBlock = some k then 0 else if vk.ownBlock = some k then 1 else if vw.ownBlock = some k then 2 else 9, by kernel_rfl, by kernel_rfl, Keeps.drew _ _, ?_, ?_, ?_, ?_⟩
    · refine ⟨fun _ => h.v.rd.drew.widen fun k hk => ?_, fun h => (by cases h), fun _ h => (by cases h), fun h => (by cases h)⟩
      rintro (h1 | h1 | h1)
      · exact (h.v.rd.own hk).2.1 h1
      · exact gd k hk h1
      · exact h1 (if_pos hk)
    · refine ⟨fun _ => h.v.rk.drew.widen fun k hk => ?_, fun h => (by cases h), fun _ h => (by cases h), fun h => (by cases h)⟩
      rintro (h1 | h1 | h1)
      · exact (h.v.rk.own hk).2.1 h1
      · exact gk k hk h1
      · exact h1 (by dsimp only; rw [if_neg (fun e => dk k e hk), if_pos hk])
    · refine ⟨fun _ => h.v.rw.drew.widen fun k hk => ?_, fun h => (by cases h), fun _ h => (by cases h), fun h => (by cases h)⟩
      rintro (h1 | h1 | h1)
      · exact (h.v.rw.own hk).2.1 h1
      · exact gw k hk h1
      · exact h1 (by dsimp only; rw [if_neg (fun e => dw k e hk), if_neg (fun e => h.v.ne k e hk), if_pos hk])
    · exact ⟨fun h => (by cases h), fun h => (by cases h), fun h => (by cases h)⟩

end Go.Proofs.YtkkliejgmgmebaaGreatDoor
