/-
  File.Copy.
-/
import Derived.Test.YtkkliejgmgmebaaGreatDoorLa
namespace Go.Proofs.YtkkliejgmgmebaaGreatDoor
open Go.RowKit

noncomputable def regC : Code := ((Tryz.f22.body.bind (regionOf 1)).getD .skip)
noncomputable def opsC : Array Oper := match regC with | .region _ ops _ => ops | _ => #[]

structure frmCp (s1 s2 : Value) (a : Act) : Prop where
  df : a.defers = []
  sz : a.tmps.size = 13
  h1 : a.tmps.getD 1 undef = s1
  h2 : a.tmps.getD 2 undef = s2
set_option maxRecDepth 100000 in
theorem frmC {s1 s2 : Value} {a : Act} (h : frmCp s1 s2 a) : ∃ u : Nat → Value, a = ⟨#[u 0, s1, s2, u 3, u 4, u 5, u 6, u 7, u 8, u 9, u 10, u 11, u 12], []⟩ := by
  obtain ⟨F, df⟩ := a
  obtain ⟨rfl, hs, rfl, rfl⟩ := h
  refine ⟨fun i => F.getD i undef, ?_⟩
  have e := open_frame F
  rw [hs] at e
  exact congrArg (Act.mk · []) e

abbrev lsC (l1 l2 l4 l5 l7 l8 : Bool) : Array Bool := #[true, l1, l2, true, l4, l5, true, l7, l8, false, false]

/-- which operations may come up -/
theorem readyC : ∀ l1 l2 l4 l5 l7 : Bool, (fun r : List Nat => !r.isEmpty && r.all fun i =>
      (i == 1 && !l1) || (i == 2 && !l2 && l1) || (i == 4 && !l4) || (i == 5 && !l5 && l4 && l2) || (i == 7 && !l7) || (i == 8 && l7 && l5))
    (Region.ready .any opsC (lsC l1 l2 l4 l5 l7 false)) = true := by decide +kernel

/-- one of the three slices: has it been read, been copied? -/
structure Cp (W w : World) (e : TypeId) (v : Value) (n : Nat) (xs : List Value) (L A : Bool) (sv sa : Value) : Prop where
  ld : L = true → sv = v
  ap : A = true → Row (Old W) w e 1 sa n xs

theorem Cp.stable {W w w' : World} {e : TypeId} {v : Value} {n : Nat} {xs : List Value} {L A : Bool} {sv sa : Value} (h : Cp W w e v n xs L A sv sa) (hg : w.grownBy w' none) : Cp W w' e v n xs L A sv sa :=
  ⟨h.ld, fun ha => (h.ap ha).kept fun k hk => hg.block k ((h.ap ha).own hk).1 fun e => by cases e⟩

theorem append_nil_copy {W w : World} {e t : TypeId} {i : TypeInfo} {z : Value} (ty : TypeId) (ht : Tryz.prog.underlying t = some (.slice e)) (hi : Tryz.prog.info? e = some i) (hz : i.zero = some z) (hsize : i.size = 1) (hby : i.bytes = 1) (hzs : z.cells.size = 1) {Pr : Nat → Prop} {v : Value} {n : Nat} {xs : List Value} (hk : Keeps (Old W) W w) (hr : Row Pr W e 1 v n xs) (h1 : ∀ u ∈ xs, u.oneCell' = true) (hn : n ≤ 10000000) :
    ∃ v' w', (Builtin.append_ #[t, t] ty #[.slice none 0 0, v]).run Tryz.prog w = .ok v' w' ∧ Row (Old W) w' e 1 v' n xs ∧ w.grownBy w' none ∧ (∀ k, v'.ownBlock = some k → w.heap.size ≤ k) := by
  obtain ⟨a, c, rfl, -, -⟩ := hr.slice
  have hr2 : Row Pr w e 1 (.slice a n c) n xs := hr.kept fun k hk' => hk.block k (hr.own hk').1
  obtain ⟨v', w', hrun, hrow, hg, ho⟩ := run_append_rv (P := Tryz.prog) (Pr := Old W) (v := .slice none 0 0) (n := 0) (xs := []) (fun h => by have h1 : w.heap.size < W.heap.size := h; have := hk.size; omega) t ty i z 1 ht hi hz hsize hby hzs (Row.nil _ _ _ _) a n c xs hr2.rv h1 (by unfold maxLen; omega) (by omega)
  rw [Nat.zero_add, List.nil_append] at hrow
  refine ⟨v', w', hrun, hrow, hg, fun k hk' => ?_⟩
  rcases ho with e | e
  · rw [e] at hk'; cases hk'
  · rw [e] at hk'
    simp only [Option.some.injEq] at hk'
    omega

set_option maxRecDepth 100000 in
/-- what every operation hands on -/
def IC (b r : Nat) (W : World) (F : Fl) (vd vk vw : Value) (u : Nat → Value) (listed : Array Bool) (a : Act) (w : World) : Prop :=
  ∃ (l1 l2 l4 l5 l7 l8 : Bool) (s4 s5 s7 s8 s10 s11 : Value),
    listed = lsC l1 l2 l4 l5 l7 l8 ∧
    a = ⟨#[u 0, .pointer (some ⟨b, 0, none⟩), .pointer (some ⟨r, 0, none⟩), .pointer (some ⟨b, 0, none⟩), s4, s5, .pointer (some ⟨b, 1, none⟩), s7, s8, .pointer (some ⟨b, 2, none⟩), s10, s11, u 12], []⟩ ∧
    Keeps (Old W) W w ∧
    Cp W w 5 vd F.d.length (u8s F.d) l1 l2 s4 s5 ∧ Cp W w 4 vk F.d.length (bls F.k) l4 l5 s7 s8 ∧ Cp W w 4 vw F.d.length (bls F.r) l7 l8 s10 s11 ∧
    (l2 = true → l1 = true) ∧ (l5 = true → l2 = true ∧ l4 = true) ∧ (l8 = true → l5 = true ∧ l7 = true) ∧ (l5 = true → l8 = true → ∀ k, s8.ownBlock = some k → s11.ownBlock ≠ some k)

set_option maxRecDepth 100000 in
set_option maxHeartbeats 4000000 in
theorem copy_r1 (Pr : Nat → Prop) (b r : Nat) (cs : Array Value) (vd vk vw : Value) (F : Fl) (W : World) (u : Nat → Value) (hb : W.heap[b]? = some (.cells #[vd, vk, vw] 34 (0, 0))) (hr : W.heap[r]? = some (.cells cs 34 (0, 0))) (hcs : cs.size = 3) (h : FileVal Pr W vd vk vw F) (hl : F.d.length ≤ 10000000) :
    Code.wp Tryz.prog regC (fun e a' w' => e = .normal ∧ frmCp (.pointer (some ⟨b, 0, none⟩)) (.pointer (some ⟨r, 0, none⟩)) a' ∧ ∃ vd' vk' vw' w1, FileVal (Old W) w1 vd' vk' vw' F ∧ Keeps (Old W) W w1 ∧ w' = ((w1.setCell ⟨r, 0, none⟩ vd').setCell ⟨r, 1, none⟩ vk').setCell ⟨r, 2, none⟩ vw')
      ⟨#[u 0, .pointer (some ⟨b, 0, none⟩), .pointer (some ⟨r, 0, none⟩), u 3, u 4, u 5, u 6, u 7, u 8, u 9, u 10, u 11, u 12], []⟩ W := by
  conv => arg 2; whnf
  refine wp_region_any (by kernel_rfl) ?_
  change wpAny _ _ _ _ _ _ _ (World.drew _)
  refine wpAny_take (i := 0) (v := .pointer (some ⟨b, 0, none⟩)) rfl (by kernel_rfl) (by kernel_rfl) (by kernel_rfl) (fun _ _ _ h => by cases h.1) (Or.inl ⟨by rfl, fun w => ?_⟩) ?_
  · go_simp
  refine wpAny_take (i := 3) (v := .pointer (some ⟨b, 1, none⟩)) rfl (by kernel_rfl) (by kernel_rfl) (by kernel_rfl) (fun _ _ _ h => by cases h.1) (Or.inl ⟨by rfl, fun w => ?_⟩) ?_
  · go_simp
  refine wpAny_take (i := 6) (v := .pointer (some ⟨b, 2, none⟩)) rfl (by kernel_rfl) (by kernel_rfl) (by kernel_rfl) (fun _ _ _ h => by cases h.1) (Or.inl ⟨by rfl, fun w => ?_⟩) ?_
  · go_simp
  refine wpAny_inv (IC b r W F vd vk vw u) ?_ _ _ _ _ ?_ ?_
  · rintro listed a w ⟨l1, l2, l4, l5, l7, l8, s4, s5, s7, s8, s10, s11, rfl, rfl, hk, S0, S1, S2, c2, c5, c8, cd⟩
    have hbW := hk.block b (lt_of_heap hb)
    obtain ⟨z0, -⟩ := cells_at (hbW.trans hb)
    have e0 := z0 0
    have e1 := z0 1
    have e2 := z0 2
    simp only [List.getElem?_toArray, List.getElem?_cons_succ, List.getElem?_cons_zero] at e0 e1 e2
    obtain ⟨i0, hi, hz0, hz1, hz2⟩ := info_parts infoU8
    obtain ⟨j0, hj, jz0, jz1, jz2⟩ := info_parts infoBool
    cases l8
    · right
      have hr := readyC l1 l2 l4 l5 l7
      simp only [Bool.and_eq_true, Bool.not_eq_true'] at hr
      refine ⟨fun h0 => ?_, fun i hi' => ?_⟩
      · have h1 := hr.1
        rw [show Region.ready .any opsC (lsC l1 l2 l4 l5 l7 false) = [] from h0] at h1
        cases h1
      have hc := List.all_eq_true.1 hr.2 i hi'
      simp only [Bool.or_eq_true, Bool.and_eq_true, beq_iff_eq, Bool.not_eq_true'] at hc
      clear hr hi'
      rcases hc with (((((⟨rfl, rfl⟩ | ⟨⟨rfl, rfl⟩, rfl⟩) | ⟨rfl, rfl⟩) | ⟨⟨⟨rfl, rfl⟩, rfl⟩, rfl⟩) | ⟨rfl, rfl⟩) | ⟨⟨rfl, rfl⟩, rfl⟩)
      · refine wpOp_value (v := vd) (w' := w) rfl rfl (by go_simp) ?_
        exact ⟨true, l2, l4, l5, l7, false, vd, s5, s7, s8, s10, s11, rfl, rfl, hk, ⟨fun _ => rfl, S0.ap⟩, S1, S2, fun _ => rfl, c5, c8, cd⟩
      · obtain rfl := S0.ld rfl
        obtain ⟨v', w', hrun, hS, hg, hoth⟩ := append_nil_copy (t := 22) 22 Tryz.underlying22 hi hz0 hz1 hz2 rfl hk h.rd (one_u8s _) hl
        refine wpOp_value (v := v') (w' := w') rfl rfl (by simp [execOp, resolve, invoke, builtin, Act.eval, hrun, Result.andThen]) ?_
        exact ⟨true, true, l4, l5, l7, false, s4, v', s7, s8, s10, s11, rfl, rfl, hk.trans (Keeps.grown (fun k (h : k < W.heap.size) => by have := hk.size; omega) hg fun k e => by cases e), ⟨fun _ => rfl, fun _ => hS⟩, S1.stable hg, S2.stable hg, fun _ => rfl, fun h => ⟨rfl, (c5 h).2⟩, c8, cd⟩
      · refine wpOp_value (v := vk) (w' := w) rfl rfl (by go_simp) ?_
        exact ⟨l1, l2, true, l5, l7, false, s4, s5, vk, s8, s10, s11, rfl, rfl, hk, S0, ⟨fun _ => rfl, S1.ap⟩, S2, c2, fun h => ⟨(c5 h).1, rfl⟩, c8, cd⟩
      · obtain rfl := S1.ld rfl
        obtain ⟨v', w', hrun, hS, hg, hoth⟩ := append_nil_copy (t := 32) 32 Tryz.underlying32 hj jz0 jz1 jz2 rfl hk h.rk (one_bls _) hl
        refine wpOp_value (v := v') (w' := w') rfl rfl (by simp [execOp, resolve, invoke, builtin, Act.eval, hrun, Result.andThen]) ?_
        exact ⟨l1, true, true, true, l7, false, s4, s5, s7, v', s10, s11, rfl, rfl, hk.trans (Keeps.grown (fun k (h : k < W.heap.size) => by have := hk.size; omega) hg fun k e => by cases e), S0.stable hg, ⟨fun _ => rfl, fun _ => hS⟩, S2.stable hg, c2, fun _ => ⟨rfl, rfl⟩, fun h => (by cases h), fun _ h => (by cases h)⟩
      · refine wpOp_value (v := vw) (w' := w) rfl rfl (by go_simp) ?_
        exact ⟨l1, l2, l4, l5, true, false, s4, s5, s7, s8, vw, s11, rfl, rfl, hk, S0, S1, ⟨fun _ => rfl, S2.ap⟩, c2, c5, fun h => ⟨(c8 h).1, rfl⟩, cd⟩
      · obtain rfl := S2.ld rfl
        obtain ⟨v', w', hrun, hS, hg, hoth⟩ := append_nil_copy (t := 32) 32 Tryz.underlying32 hj jz0 jz1 jz2 rfl hk h.rw (one_bls _) hl
        refine wpOp_value (v := v') (w' := w') rfl rfl (by simp [execOp, resolve, invoke, builtin, Act.eval, hrun, Result.andThen]) ?_
        exact ⟨l1, l2, l4, true, true, true, s4, s5, s7, s8, s10, v', rfl, rfl, hk.trans (Keeps.grown (fun k (h : k < W.heap.size) => by have := hk.size; omega) hg fun k e => by cases e), S0.stable hg, S1.stable hg, ⟨fun _ => rfl, fun _ => hS⟩, c2, c5, fun _ => ⟨rfl, rfl⟩, fun _ _ k h1 h2 => by have := hoth k h2; have := ((S1.ap rfl).own h1).1; omega⟩
    · left
      obtain ⟨rfl, rfl⟩ := c8 rfl
      obtain ⟨rfl, rfl⟩ := c5 rfl
      obtain rfl := c2 rfl
      intro fuel hf
      obtain ⟨m, rfl⟩ : ∃ m, fuel = m + 2 := ⟨fuel - 2, by
        have h9 : todo opsC.size (lsC true true true true true true) = 2 := by decide +kernel
        have h9' : todo opsC.size (lsC true true true true true true) ≤ fuel := hf
        omega⟩
      have R0 := S0.ap rfl
      have R1 := S1.ap rfl
      have R2 := S2.ap rfl
      obtain ⟨a0, q0, rfl, -⟩ := R0.slice
      obtain ⟨a1, q1, rfl, -⟩ := R1.slice
      obtain ⟨a2, q2, rfl, -⟩ := R2.slice
      have hV : FileVal (Old W) w (.slice a0 F.d.length q0) (.slice a1 F.d.length q1) (.slice a2 F.d.length q2) F := ⟨R0, R1, R2, cd rfl rfl⟩
      obtain ⟨y0, y1⟩ := cells_at ((hk.block r (lt_of_heap hr)).trans hr)
      have g0 : ∃ x, w.cell? ⟨r, 0, none⟩ = some x := ⟨_, (y0 0).trans (Array.getElem?_eq_getElem (by omega))⟩
      have g1 : ∃ x, w.cell? ⟨r, 1, none⟩ = some x := ⟨_, (y0 1).trans (Array.getElem?_eq_getElem (by omega))⟩
      have g2 : ∃ x, w.cell? ⟨r, 2, none⟩ = some x := ⟨_, (y0 2).trans (Array.getElem?_eq_getElem (by omega))⟩
      obtain ⟨x0, g0⟩ := g0
      obtain ⟨x1, g1⟩ := g1
      obtain ⟨x2, g2⟩ := g2
      have f0 := y1 0
      have f1 := y1 1
      have f2 := y1 2
      have HV := Lib.hid hV
      have HK := Lib.hid hk
      clear S0 S1 S2 c2 c5 c8 cd hf R0 R1 R2 hk y0 y1 hb hr h hV z0 e0 e1 e2 hbW
      refine wpAny_ready (rs := [9]) (by kernel_rfl) (by simp) (AllReady.cons rfl (fun K hK => ?_) AllReady.nil)
      go_simp
      refine hK _ _ ?_
      clear hK K
      refine wpAny_ready (rs := [10]) (by kernel_rfl) (by simp) (AllReady.cons rfl (fun K hK => ?_) AllReady.nil)
      go_simp
      refine hK _ _ ?_
      clear hK K
      refine wpAny_done (by kernel_rfl) ?_ _
      exact ⟨rfl, ⟨rfl, rfl, rfl, rfl⟩, _, _, _, w, HV.out, HK.out, rfl⟩
  · decide +kernel
  · exact ⟨false, false, false, false, false, false, u 4, u 5, u 7, u 8, u 10, u 11, by kernel_rfl, by kernel_rfl, Keeps.drew _ _, ⟨fun h => (by cases h), fun h => (by cases h)⟩, ⟨fun h => (by cases h), fun h => (by cases h)⟩, ⟨fun h => (by cases h), fun h => (by cases h)⟩, fun h => (by cases h), fun h => (by cases h), fun h => (by cases h), fun h => (by cases h)⟩

end Go.Proofs.YtkkliejgmgmebaaGreatDoor

namespace Go.Proofs.YtkkliejgmgmebaaGreatDoor
open Go.RowKit

theorem file_cells {w1 : World} {r : Nat} {a b c : Value} (h : w1.heap[r]? = some (.cells #[a, b, c] 34 (0, 0))) (x y z : Value) : (((w1.setCell ⟨r, 0, none⟩ x).setCell ⟨r, 1, none⟩ y).setCell ⟨r, 2, none⟩ z).heap[r]? = some (.cells #[x, y, z] 34 (0, 0)) :=
  heap_set_same (heap_set_same (heap_set_same h 0 x) 1 y) 2 z

set_option maxRecDepth 100000 in
set_option maxHeartbeats 4000000 in
theorem copy_any (Pr : Nat → Prop) (w : World) (vd vk vw : Value) (F : Fl) (h : FileVal Pr w vd vk vw F) (hl : F.d.length ≤ 10000000) :
    Calls Tryz.prog 22 #[.agg #[vd, vk, vw]] w fun e w' => ∃ vd' vk' vw', e = .returned (.agg #[vd', vk', vw']) ∧ FileVal (Old w) w' vd' vk' vw' F ∧ Keeps (Old w) w w' := by
  obtain ⟨ad, cd, rfl, -⟩ := h.rd.slice
  obtain ⟨ak, ck, rfl, -⟩ := h.rk.slice
  obtain ⟨aw, cw, rfl, -⟩ := h.rw.slice
  have H := Lib.hid h
  clear h
  go_enter Tryz.func22, Tryz.ntmps22
  (repeat (first | go_values | go_skip | go_guarded | go_step | go_upon))
  have hb : ((w.alloc (.cells #[.slice ad F.d.length cd, .slice ak F.d.length ck, .slice aw F.d.length cw] 34)).alloc (.cells #[.slice none 0 0, .slice none 0 0, .slice none 0 0] 34)).heap[w.heap.size]? = some (.cells #[.slice ad F.d.length cd, .slice ak F.d.length ck, .slice aw F.d.length cw] 34 (0, 0)) := heap_alloc2_old w _ _
  have hr : ((w.alloc (.cells #[.slice ad F.d.length cd, .slice ak F.d.length ck, .slice aw F.d.length cw] 34)).alloc (.cells #[.slice none 0 0, .slice none 0 0, .slice none 0 0] 34)).heap[w.heap.size + 1]? = some (.cells #[.slice none 0 0, .slice none 0 0, .slice none 0 0] 34 (0, 0)) := heap_alloc2_new w _ _
  have hk : Keeps (Old w) w ((w.alloc (.cells #[.slice ad F.d.length cd, .slice ak F.d.length ck, .slice aw F.d.length cw] 34)).alloc (.cells #[.slice none 0 0, .slice none 0 0, .slice none 0 0] 34)) := (Keeps.alloc (fun _ h => h) _).trans (Keeps.alloc (fun k (h : k < w.heap.size) => by simp; omega) _)
  generalize ((w.alloc (.cells #[.slice ad F.d.length cd, .slice ak F.d.length ck, .slice aw F.d.length cw] 34)).alloc (.cells #[.slice none 0 0, .slice none 0 0, .slice none 0 0] 34)) = W at *
  have hv : FileVal Pr W (.slice ad F.d.length cd) (.slice ak F.d.length ck) (.slice aw F.d.length cw) F := H.out.kept fun k h1 _ => hk.block k h1
  refine Code.wp_mono ?_ (copy_r1 Pr w.heap.size (w.heap.size + 1) _ (.slice ad F.d.length cd) (.slice ak F.d.length ck) (.slice aw F.d.length cw) F W (fun i => if i = 0 then .agg #[.slice ad F.d.length cd, .slice ak F.d.length ck, .slice aw F.d.length cw] else undef) hb hr rfl hv hl)
  rintro e a' w' ⟨rfl, ha, vd', vk', vw', w1, hv1, hk1, rfl⟩
  obtain ⟨u, rfl⟩ := frmC ha
  have hs := hk.size
  have hrb := lt_of_heap hr
  have hr1 := file_cells ((hk1.block (w.heap.size + 1) hrb).trans hr) vd' vk' vw'
  have hown : ∀ k, (vd'.ownBlock = some k ∨ vk'.ownBlock = some k ∨ vw'.ownBlock = some k) → k ≠ w.heap.size + 1 := fun k hk' e => by
    have : ¬ k < W.heap.size := by
      rcases hk' with h | h | h
      · exact (hv1.rd.own h).2.1
      · exact (hv1.rk.own h).2.1
      · exact (hv1.rw.own h).2.1
    omega
  have hv2 : FileVal (Old w) (((w1.setCell ⟨w.heap.size + 1, 0, none⟩ vd').setCell ⟨w.heap.size + 1, 1, none⟩ vk').setCell ⟨w.heap.size + 1, 2, none⟩ vw') vd' vk' vw' F := (hv1.widen fun k _ h1 h2 => h1 (Nat.lt_of_lt_of_le h2 hs)).kept fun k _ hor => by
    rw [heap_set_other _ _ _ (hown k hor), heap_set_other _ _ _ (hown k hor), heap_set_other _ _ _ (hown k hor)]
  have hk2 : Keeps (Old w) w (((w1.setCell ⟨w.heap.size + 1, 0, none⟩ vd').setCell ⟨w.heap.size + 1, 1, none⟩ vk').setCell ⟨w.heap.size + 1, 2, none⟩ vw') :=
    (hk.trans (hk1.mono fun k (h : k < w.heap.size) => Nat.lt_of_lt_of_le h hs)).trans (((Keeps.setCell (a := ⟨w.heap.size + 1, 0, none⟩) (fun h => by have h' : w.heap.size + 1 < w.heap.size := h; omega) _).trans (Keeps.setCell (a := ⟨w.heap.size + 1, 1, none⟩) (fun h => by have h' : w.heap.size + 1 < w.heap.size := h; omega) _)).trans (Keeps.setCell (a := ⟨w.heap.size + 1, 2, none⟩) (fun h => by have h' : w.heap.size + 1 < w.heap.size := h; omega) _))
  generalize (((w1.setCell ⟨w.heap.size + 1, 0, none⟩ vd').setCell ⟨w.heap.size + 1, 1, none⟩ vk').setCell ⟨w.heap.size + 1, 2, none⟩ vw') = W' at *
  have HV2 := Lib.hid hv2
  have HK2 := Lib.hid hk2
  have HR1 := Lib.hid hr1
  clear hv hv1 hk1 hk hb hr hs hrb hown hv2 hk2 hr1 ha
  (repeat (first | go_values | go_skip | go_guarded | go_step | go_upon))
  exact bodyPost_ret (results_cell_row rfl _ _ (w.heap.size + 1) 34 _ _ _ rfl HR1.out Tryz.underlying34 rfl (by kernel_rfl)) rfl ⟨_, _, _, rfl, HV2.out, HK2.out⟩

noncomputable def bodyDi : Code := ((Tryz.f23.body.bind firstLoop).getD .skip)

/-- is there a byte that was written in an open transaction? -/
def anyW (F : Fl) : Bool := F.r.any id

structure frmDip (s8 s9 s10 : Value) (a : Act) : Prop where
  df : a.defers = []
  sz : a.tmps.size = 16
  h8 : a.tmps.getD 8 undef = s8
  h9 : a.tmps.getD 9 undef = s9
  h10 : a.tmps.getD 10 undef = s10
set_option maxRecDepth 100000 in
theorem frmDi {s8 s9 s10 : Value} {a : Act} (h : frmDip s8 s9 s10 a) : ∃ u : Nat → Value, a = ⟨#[u 0, u 1, u 2, u 3, u 4, u 5, u 6, u 7, s8, s9, s10, u 11, u 12, u 13, u 14, u 15], []⟩ := by
  obtain ⟨F, df⟩ := a
  obtain ⟨rfl, hs, rfl, rfl, rfl⟩ := h
  refine ⟨fun i => F.getD i undef, ?_⟩
  have e := open_frame F
  rw [hs] at e
  exact congrArg (Act.mk · []) e

set_option maxRecDepth 100000 in
set_option maxHeartbeats 4000000 in
theorem dirty_any (Pr : Nat → Prop) (w : World) (g : FP) (vd vk vw : Value) (F : Fl) (h : FileIs Pr w g vd vk vw F) (hl : F.d.length ≤ 10000000) :
    Calls Tryz.prog 23 #[.pointer (some ⟨g.b, g.o, none⟩)] w fun e w' => e = .returned (.bool (anyW F)) ∧ w' = w := by
  obtain ⟨-, -, c2, -⟩ := h.cells
  obtain ⟨aw, cw, rfl, hcw, -⟩ := h.v.rw.slice
  have hrow := h.v.rw
  have hlr := h.v.lr
  have HROW := Lib.hid hrow
  clear h hrow
  go_enter Tryz.func23, Tryz.ntmps23
  (repeat (first | go_values | go_skip | go_guarded | go_step | go_upon))
  refine wp_loop_ghost (fun j a' w' => ∃ i : Nat, j = F.d.length - i ∧ i ≤ F.d.length ∧ w' = w ∧ frmDip (.slice aw F.d.length cw) (.int .i64 (F.d.length : Int)) (.int .i64 (i : Int)) a' ∧ ∀ k, k < i → F.r[k]? = some false) F.d.length ⟨0, rfl, Nat.zero_le _, rfl, ⟨rfl, rfl, rfl, rfl, rfl⟩, fun k hk => by omega⟩ ?_
  rintro j a' w' ⟨i, rfl, hi, rfl, ha, hno⟩
  obtain ⟨u, rfl⟩ := frmDi ha
  clear ha
  by_cases hlt : i < F.d.length
  · obtain ⟨g2, cap2, e1, -, -, -, hc, -⟩ := HROW.out.opened (by omega)
    simp only [Value.slice.injEq] at e1
    obtain ⟨rfl, -, rfl⟩ := e1
    obtain ⟨x, hx⟩ : ∃ x, F.r[i]? = some x := ⟨_, List.getElem?_eq_getElem (by omega)⟩
    have hcell := hc i hlt
    rw [List.getElem?_map, hx] at hcell
    replace hcell : w'.cell? ⟨g2, i, none⟩ = some (.bool x) := hcell
    have HNO := Lib.hid hno
    clear hno hc
    cases x with
    | true =>
      have hany : anyW F = true := by
        unfold anyW
        rw [List.any_eq_true]
        exact ⟨true, List.mem_of_getElem? hx, rfl⟩
      clear hx
      (repeat (first | go_values | go_skip | go_guarded | go_step | go_upon))
      go_ret
      exact ⟨by rw [hany]; rfl, rfl⟩
    | false =>
      (repeat (first | go_values | go_skip | go_guarded | go_step | go_upon))
      refine ⟨F.d.length - (i + 1), by omega, i + 1, rfl, by omega, trivial, ⟨rfl, rfl, rfl, rfl, by go_num⟩, fun k hk => ?_⟩
      by_cases e : k = i
      · rw [e]; exact hx
      · exact HNO.out k (by omega)
  · have hany : anyW F = false := by
      unfold anyW
      rw [List.any_eq_false]
      intro x hx
      obtain ⟨k, hk⟩ := List.getElem?_of_mem hx
      have hk2 : k < F.r.length := (List.getElem?_eq_some_iff.1 hk).1
      rw [hno k (by omega)] at hk
      cases hk
      decide
    clear hno
    (repeat (first | go_values | go_skip | go_guarded | go_step | go_upon))
    go_ret
    exact ⟨by rw [hany]; rfl, rfl⟩

end Go.Proofs.YtkkliejgmgmebaaGreatDoor
