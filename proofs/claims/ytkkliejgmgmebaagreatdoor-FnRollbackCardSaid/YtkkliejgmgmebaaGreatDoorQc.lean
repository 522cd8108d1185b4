/-
  Nested.Call: End of the lowest transaction.
-/
import Derived.Test.YtkkliejgmgmebaaGreatDoorQ7a
namespace Go.Proofs.YtkkliejgmgmebaaGreatDoor
open Go.RowKit

/-- no byte was written in an open transaction -/
def Fl.kept (F : Fl) : Fl := ⟨F.d, F.k, List.replicate F.d.length false⟩

section
variable {Pr : Nat → Prop} {w : World} {gn gs cap : Nat} {X : List FV} {opn : Bool} {most : Nat}

theorem NIs.dirty1 {W : World} {x0 x1 : FV} (h : NIs Pr W gn gs cap [x0, x1] opn most) (hl : x1.F.d.length ≤ 10000000) :
    Calls Tryz.prog 23 #[.pointer (some ⟨gs, 3, none⟩)] W fun e w' => e = .returned (.bool (anyW x1.F)) ∧ w' = W := by
  obtain ⟨g, hgb, hgo, hf, -⟩ := h.file (i := 1) (x := x1) rfl
  have hd := dirty_any _ W g _ _ _ _ hf hl
  rw [hgb, hgo] at hd
  exact hd

theorem NIs.kept1 {W : World} {x0 x1 : FV} (hin : Inw Pr W) (h : NIs Pr W gn gs cap [x0, x1] opn most) (hl : x1.F.d.length ≤ 10000000) :
    Calls Tryz.prog 24 #[.pointer (some ⟨gs, 3, none⟩)] W fun e w' => e = .returned (.tuple #[]) ∧ ∃ vw', NIs Pr w' gn gs cap [x0, ⟨x1.vd, x1.vk, vw', x1.F.kept⟩] opn most ∧ Keeps Pr W w' := by
  obtain ⟨g, hgb, hgo, hf, hu⟩ := h.file (i := 1) (x := x1) rfl
  have hP : Inw (PrN Pr gn [x0, x1] 1) W := fun k hk => by
    rcases hk with hk | hk | ⟨j, y, -, hy, ho⟩
    · exact hin k hk
    · rw [hk]; exact lt_of_heap h.nest
    · exact (h.own_lt hy ho).1
  have hd := kept_any (PrN Pr gn [x0, x1] 1) g x1.vd x1.vk x1.vw x1.F W hP hf (by omega)
  rw [hgb, hgo] at hd
  refine hd.mono ?_
  rintro e w' ⟨rfl, vw', hF, hK⟩
  exact ⟨rfl, vw', hu w' _ _ _ _ hF hK, hK.mono fun k hk => .inl hk⟩

set_option maxRecDepth 100000 in
set_option maxHeartbeats 4000000 in
theorem ncall_end1 (off size : Int) (da : Option Addr) (dn dc : Nat) (x0 x1 : FV) (hin : Inw Pr w) (h : NIs Pr w gn gs cap [x0, x1] opn most) (_hl0 : x0.F.d.length ≤ 10000000) (hl1 : x1.F.d.length ≤ 10000000) :
    Calls Tryz.prog 15 #[.pointer (some ⟨gn, 0, none⟩), .agg #[.int .i64 6, .int .i64 off, .int .i64 size, .slice da dn dc]] w (NPost Pr w gn ⟨[x1.F.kept], opn || (!anyW x1.F && ((x0.F.d.length : Int) != (x1.F.d.length : Int))), most⟩ true) := by
  obtain ⟨c0, c1, -, f0, f1, -⟩ := h.cell0
  have hcap : 2 ≤ cap := h.capn
  obtain ⟨g0, hgb, hgo, hf, -⟩ := h.file (i := 0) (x := x0) rfl
  obtain ⟨y0, -⟩ := hf.cells
  obtain ⟨g1, hgb1, hgo1, hf1, -⟩ := h.file (i := 1) (x := x1) rfl
  obtain ⟨z0, -⟩ := hf1.cells
  rw [hgb, hgo] at y0
  rw [hgb1, hgo1] at z0
  have hv0 : FileVal Pr w x0.vd x0.vk x0.vw x0.F := h.val 0 x0 rfl
  have hv1 : FileVal Pr w x1.vd x1.vk x1.vw x1.F := h.val 1 x1 rfl
  obtain ⟨a0, q0, e0, -⟩ := hv0.rd.slice
  obtain ⟨a1, q1, e1, -⟩ := hv1.rd.slice
  rw [e0] at y0
  rw [e1] at z0
  simp only [Nat.zero_mul, Nat.one_mul] at y0 z0
  have hgs := (h.row.own (k := gs) rfl).1
  have hlt := lt_of_heap h.nest
  obtain ⟨hb, hk⟩ := h.boxed hin (.cells #[.int .i64 6, .int .i64 off, .int .i64 size, .slice da dn dc] 47)
  have DI := Lib.hid (hb.drew.dirty1 hl1)
  have HB := Lib.hid hb
  have HK := Lib.hid hk
  clear h hf hf1 hgb hgb1 hgo hgo1 hv0 hv1 e0 e1 hb hk
  simp only [List.length_cons, List.length_nil, Nat.zero_add, Nat.reduceAdd] at c0
  have HBC := Lib.hid HB.out.cell0
  have R11 : ∀ (a : Act) (s3 s4 s5 s17 : Value), frmEp (.pointer (some ⟨gn, 0, none⟩)) s3 s4 s5 s17 a → Code.wp Tryz.prog regE (fun e a' w' => e = .normal ∧ frmEp (.pointer (some ⟨gn, 0, none⟩)) s3 s4 s5 s17 a' ∧ w' = (w.alloc (.cells #[.int .i64 6, .int .i64 off, .int .i64 size, .slice da dn dc] 47)).drew.setCell ⟨gn, 1, none⟩ (.bool (opn || (!anyW x1.F && ((x0.F.d.length : Int) != (x1.F.d.length : Int)))))) a (w.alloc (.cells #[.int .i64 6, .int .i64 off, .int .i64 size, .slice da dn dc] 47)) := by
    intro a s3 s4 s5 s17 ha
    obtain ⟨u, rfl⟩ := frmE ha
    obtain ⟨k0, k1, -, -, k4, -⟩ := HBC.out
    cases opn with
    | true => exact end_open gn gs cap 0 0 0 0 none none s3 s4 s5 s17 _ u hcap k0 k1 k4
    | false =>
      have hd := DI.out
      cases hany : anyW x1.F with
      | true =>
        rw [hany] at hd
        exact end_dirty gn gs cap 0 0 0 0 none none s3 s4 s5 s17 _ u hcap k0 k1 k4 hd
      | false =>
        rw [hany] at hd
        exact end_clean gn gs cap x0.F.d.length q0 x1.F.d.length q1 a0 a1 s3 s4 s5 s17 _ u hcap k0 k1 k4 hd (by rw [World.cell?_alloc_past _ _ _ hgs]; exact y0) (by rw [World.cell?_alloc_past _ _ _ hgs]; exact z0)
  have R := Lib.hid R11
  clear R11 DI
  generalize (opn || (!anyW x1.F && ((x0.F.d.length : Int) != (x1.F.d.length : Int)))) = opn' at *
  go_enter Tryz.func15, Tryz.ntmps15
  (repeat (first | go_values | go_skip | go_guarded | go_step | go_upon))
  refine Code.wp_mono ?_ (R.out _ _ _ _ _ ⟨rfl, rfl, rfl, rfl, rfl, rfl, rfl⟩)
  rintro e a' w' ⟨rfl, ha, rfl⟩
  obtain ⟨u, rfl⟩ := frmE ha
  have hN1 := HB.out.drew.flags opn' most (w' := (w.alloc (.cells #[.int .i64 6, .int .i64 off, .int .i64 size, .slice da dn dc] 47)).drew.setCell ⟨gn, 1, none⟩ (.bool opn')) (fun k hk => heap_set_other _ _ _ hk) (heap_set_same HB.out.drew.nest 1 _)
  have hK1 := (HK.out.trans (Keeps.drew _ _)).trans (Keeps.setCell (a := ⟨gn, 1, none⟩) HB.out.ng (.bool opn'))
  clear ha R HBC HB HK y0 z0 c0 c1 f0 f1 hlt hgs
  generalize (w.alloc (.cells #[.int .i64 6, .int .i64 off, .int .i64 size, .slice da dn dc] 47)).drew.setCell ⟨gn, 1, none⟩ (.bool opn') = V at *
  have c0 : V.cell? ⟨gn, 0, none⟩ = some (.slice (some ⟨gs, 0, none⟩) 2 cap) := hN1.cell0.1
  have KP := Lib.hid (hN1.kept1 (hK1.inw hin) hl1)
  have HK1 := Lib.hid hK1
  clear hN1 hK1
  (repeat (first | go_values | go_skip | go_guarded | go_step | go_upon))
  refine KP.out.mono ?_
  rintro e w2 ⟨rfl, vw', hN2, hK2⟩
  have hv : FileVal Pr w2 x1.vd x1.vk vw' x1.F.kept := hN2.val 1 _ rfl
  obtain ⟨ad, cd, ed, -⟩ := hv.rd.slice
  obtain ⟨ak, ck, ek, -⟩ := hv.rk.slice
  obtain ⟨aw, cw, ew, -⟩ := hv.rw.slice
  rw [ed, ek, ew] at hN2
  obtain ⟨ga, ha1, ha2, hfa, -⟩ := hN2.file (i := 0) (x := x0) rfl
  obtain ⟨t0, t1, t2, b0, b1, b2⟩ := hfa.cells
  obtain ⟨gb, hb1, hb2, hfb, -⟩ := hN2.file (i := 1) (x := ⟨.slice ad x1.F.kept.d.length cd, .slice ak x1.F.kept.d.length ck, .slice aw x1.F.kept.d.length cw, x1.F.kept⟩) rfl
  obtain ⟨y0, y1, y2, -⟩ := hfb.cells
  rw [ha1, ha2] at t0 t1 t2 b0 b1 b2
  rw [hb1, hb2] at y0 y1 y2
  simp only [Nat.zero_mul, Nat.one_mul, Nat.zero_add, Nat.reduceAdd] at t0 t1 t2 b0 b1 b2 y0 y1 y2
  have d0 : w2.cell? ⟨gn, 0, none⟩ = some (.slice (some ⟨gs, 0, none⟩) 2 cap) := hN2.cell0.1
  have d1 := hN2.cell0.2.2.2.1
  have hgs := (hN2.row.own (k := gs) rfl).1
  have hne := hN2.ne
  have H2 := Lib.hid hN2
  have HK2 := Lib.hid hK2
  clear hN2 hK2 hfa hfb ha1 ha2 hb1 hb2 hv ed ek ew KP
  dsimp only
  (repeat (first | go_values | go_skip | go_guarded | go_step | go_upon))
  go_region
  (repeat (first | go_values | go_skip | go_guarded | go_step | go_upon))
  go_ret
  obtain ⟨hM, hK⟩ := H2.out.mergeAt (n := 0) rfl rfl
  exact ⟨rfl, gs, cap, _, hM.drew, rfl, ((HK1.out.trans HK2.out).trans hK).trans (Keeps.drew _ _)⟩
end

end Go.Proofs.YtkkliejgmgmebaaGreatDoor

namespace Go.Proofs.YtkkliejgmgmebaaGreatDoor
open Go.RowKit

section
variable {Pr : Nat → Prop} {w : World} {gn gs cap : Nat} {X : List FV} {opn : Bool} {most : Nat}

theorem infoFile : (Tryz.prog.info? 34).map (fun i => (i.zero, i.size, i.bytes)) = some (some (.agg #[.slice none 0 0, .slice none 0 0, .slice none 0 0]), 3, 72) := by kernel_rfl

/-- a copy of the last state is appended -/
theorem NIs.push (h : NIs Pr w gn gs cap X opn most) {x : FV} {gs' cap' : Nat} {w' : World} (hk : ∀ k, k < w.heap.size → k ≠ gn → k ≠ gs → w'.heap[k]? = w.heap[k]?)
    (hn : w'.heap[gn]? = some (.cells #[.slice (some ⟨gs', 0, none⟩) (X.length + 1) cap', .bool opn, .int .i64 (most : Int)] 37 (0, 0)))
    (hrow : Row Pr w' 34 3 (.slice (some ⟨gs', 0, none⟩) (X.length + 1) cap') (X.length + 1) (X.flatMap FV.cells ++ x.cells)) (hv : FileVal Pr w' x.vd x.vk x.vw x.F) (hnew : ∀ k, x.own k → w.heap.size ≤ k) : NIs Pr w' gn gs' cap' (X ++ [x]) opn most := by
  have hl : (X ++ [x]).length = X.length + 1 := by simp
  have hx' : ∀ (i : Nat) (z : FV), (X ++ [x])[i]? = some z → X[i]? = some z ∨ (i = X.length ∧ z = x) := fun i z hz => by
    by_cases hi : i < X.length
    · rw [List.getElem?_append_left hi] at hz; exact .inl hz
    · have hil : i < X.length + 1 := by rw [← hl]; exact (List.getElem?_eq_some_iff.1 hz).1
      obtain rfl : i = X.length := by omega
      rw [List.getElem?_append_right (Nat.le_refl _), Nat.sub_self] at hz
      simp only [List.getElem?_cons_zero, Option.some.injEq] at hz
      exact .inr ⟨rfl, hz.symm⟩
  refine ⟨by rw [hl]; exact hn, h.ng, by rw [hl, List.flatMap_append]; simpa using hrow, fun i z hz => ?_, fun i j y z hij hy hz k h1 h2 => ?_⟩
  · rcases hx' i z hz with h1 | ⟨-, rfl⟩
    · exact (h.val i z h1).keepOwn fun k hk' => hk k (h.own_lt h1 hk').1 (h.own_lt h1 hk').2.2.1 (h.own_lt h1 hk').2.2.2
    · exact hv
  · rcases hx' i y hy with a1 | ⟨rfl, rfl⟩
    · rcases hx' j z hz with a2 | ⟨-, rfl⟩
      · exact h.dis i j y z hij a1 a2 k h1 h2
      · have := hnew k h2; have := (h.own_lt a1 h1).1; omega
    · have : j < X.length + 1 := by rw [← hl]; exact (List.getElem?_eq_some_iff.1 hz).1
      omega
end

end Go.Proofs.YtkkliejgmgmebaaGreatDoor
