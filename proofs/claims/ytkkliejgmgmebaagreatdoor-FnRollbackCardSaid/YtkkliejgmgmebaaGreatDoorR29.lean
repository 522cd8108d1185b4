/-
  impl.call over a RollbackFiler: all kinds but reading and writing (printed by gen_r29.py).
-/
import Derived.Test.YtkkliejgmgmebaaGreatDoorRk
namespace Go.Proofs.YtkkliejgmgmebaaGreatDoor
open Go.RowKit

theorem rend1 {tg : Nat → Nat × Nat} {w : World} {gr gc : Nat} {S : St} {va vb : Addr} (h : RbIs 0 0 0 tg w gr gc S va vb) (ht : 0 < S.t) :
    Calls Tryz.prog 59 #[.pointer (some ⟨gr, 0, none⟩)] w fun e w' => e = .returned .nilIface ∧ REnd tg w gr gc S (S.t - 1) va vb w' := by
  by_cases h1 : S.t = 1
  · rw [h1]
    exact rendA h h1
  · have e : S.t - 1 = (S.t - 2) + 1 := by omega
    rw [e]
    exact rendB h (by omega)

set_option maxRecDepth 100000 in
set_option maxHeartbeats 4000000 in
theorem call_roll_4 {tg : Nat → Nat × Nat} {w : World} {gr gc : Nat} {S : St} {va vb : Addr} (off size : Int) (da : Option Addr) (dn dc : Nat) (xs : List UInt8) (h : RbIs 0 0 0 tg w gr gc S va vb) :
    Calls Tryz.prog 26 #[.iface 57 (.pointer (some ⟨gr, 0, none⟩)), .agg #[.int .i64 4, .int .i64 off, .int .i64 size, .slice da dn dc]] w
      (CallR tg w gr gc va vb fun r S' => SStep S 4 off size xs r S') := by
  have H := Lib.hid h
  have hgr := lt_of_heap (h.roll.choose_spec.1)
  clear h
  go_enter Tryz.func26, Tryz.ntmps26
  (repeat (first | go_values | go_skip | go_guarded | go_step | go_upon))
  have hW : Keeps (Old w) w (w2B w 4 off size da dn dc) := (Keeps.alloc (fun _ h => h) _).trans (Keeps.alloc (fun k (h : k < w.heap.size) => by simp; omega) _)
  have hs : (w2B w 4 off size da dn dc).heap.size = w.heap.size + 2 := by simp
  have hb1 : (w2B w 4 off size da dn dc).heap[w.heap.size + 1]? = some (.cells #[.int .i64 0, .slice none 0 0, .int .i64 0, .int .i64 0] 60 (0, 0)) := heap_alloc2_new w _ _
  change Calls Tryz.prog _ _ (w2B w 4 off size da dn dc) _
  generalize w2B w 4 off size da dn dc = W2 at *
  obtain ⟨tg1, t1o, t1n, h2⟩ := H.out.fresh hW
  refine (rsize h2).mono ?_
  rintro e w3 ⟨rfl, h3, kk⟩
  have k3 : Keeps (OutR tg1 W2 gr) W2 w3 := kk.mono fun j hj => hj.2.2
  replace hb1 := (k3.block (w.heap.size + 1) ⟨by omega, by rw [t1n _ (by omega)]; decide, by omega⟩).trans hb1
  have HB1 := Lib.hid hb1
  have V := Lib.hid h3.vars
  have FIN := Lib.hid (fun (W' : World) (rv : Value) (r : Res) => callR_end (X := fun _ => False) (W' := W') (rv := rv) (r := r) (R := fun r S' => SStep S 4 off size xs r S') hW (Nat.le_of_eq hs.symm) t1o t1n h3 (fun _ _ => rfl) k3 (fun _ h => h.elim))
  clear hb1 hW hs h2 h3 k3 t1o t1n hgr
  obtain ⟨b0, b1⟩ := cells_at HB1.out
  have x0 := b0 0
  have x1 := b0 1
  have x2 := b0 2
  have x3 := b0 3
  have f0 := b1 0
  have f1 := b1 1
  have f2 := b1 2
  have f3 := b1 3
  simp only [List.getElem?_toArray, List.getElem?_cons_succ, List.getElem?_cons_zero] at x0 x1 x2 x3
  clear b0 b1
  dsimp only
  (repeat (first | go_values | go_skip | go_guarded | go_step | go_upon))
  refine (kind_nil _).mono ?_
  rintro e w4 ⟨rfl, rfl⟩
  dsimp only
  (repeat (first | go_values | go_skip | go_guarded | go_step | go_upon))
  have q0 := heap_set_same HB1.out 2 (.int .i64 (S.size S.t : Int))
  have k0 := (Keeps.setCell (Pr := fun k => k ≠ w.heap.size + 1) (a := ⟨w.heap.size + 1, 2, none⟩) (fun h => h rfl) (.int .i64 (S.size S.t : Int)) : Keeps _ w3 _)
  have q1 := heap_set_same q0 3 (.int .i64 0)
  have k1 := k0.trans (Keeps.setCell (Pr := fun k => k ≠ w.heap.size + 1) (a := ⟨w.heap.size + 1, 3, none⟩) (fun h => h rfl) (.int .i64 0))
  have q2 := heap_set_same q1 0 (.int .i64 0)
  have k2 := k1.trans (Keeps.setCell (Pr := fun k => k ≠ w.heap.size + 1) (a := ⟨w.heap.size + 1, 0, none⟩) (fun h => h rfl) (.int .i64 0))
  have q3 := heap_set_same q2 1 (.slice none 0 0)
  have k3 := k2.trans (Keeps.setCell (Pr := fun k => k ≠ w.heap.size + 1) (a := ⟨w.heap.size + 1, 1, none⟩) (fun h => h rfl) (.slice none 0 0))
  have q4 := heap_set_same q3 2 (.int .i64 (S.size S.t : Int))
  have k4 := k3.trans (Keeps.setCell (Pr := fun k => k ≠ w.heap.size + 1) (a := ⟨w.heap.size + 1, 2, none⟩) (fun h => h rfl) (.int .i64 (S.size S.t : Int)))
  have q5 := heap_set_same q4 3 (.int .i64 0)
  have k5 := k4.trans (Keeps.setCell (Pr := fun k => k ≠ w.heap.size + 1) (a := ⟨w.heap.size + 1, 3, none⟩) (fun h => h rfl) (.int .i64 0))
  exact bodyPost_ret (results_cell_row rfl _ _ (w.heap.size + 1) 60 _ _ _ rfl q5 Tryz.underlying60 rfl (by kernel_rfl)) rfl
    (FIN.out _ _ _ k5 (res_nil _ _ 0 (S.size S.t : Int) 0) ⟨fun e => absurd e (by decide), fun e => absurd e (by decide), fun e => absurd e (by decide), fun e => absurd e (by decide), fun _ => ⟨rfl, rfl, rfl⟩, fun e => absurd e (by decide), fun e => absurd e (by decide), fun e => absurd e (by decide)⟩)

set_option maxRecDepth 100000 in
set_option maxHeartbeats 4000000 in
theorem call_roll_5 {tg : Nat → Nat × Nat} {w : World} {gr gc : Nat} {S : St} {va vb : Addr} (off size : Int) (da : Option Addr) (dn dc : Nat) (xs : List UInt8) (h : RbIs 0 0 0 tg w gr gc S va vb) (ht : S.t < 30) :
    Calls Tryz.prog 26 #[.iface 57 (.pointer (some ⟨gr, 0, none⟩)), .agg #[.int .i64 5, .int .i64 off, .int .i64 size, .slice da dn dc]] w
      (CallR tg w gr gc va vb fun r S' => SStep S 5 off size xs r S') := by
  have H := Lib.hid h
  have hgr := lt_of_heap (h.roll.choose_spec.1)
  clear h
  go_enter Tryz.func26, Tryz.ntmps26
  (repeat (first | go_values | go_skip | go_guarded | go_step | go_upon))
  have hW : Keeps (Old w) w (w2B w 5 off size da dn dc) := (Keeps.alloc (fun _ h => h) _).trans (Keeps.alloc (fun k (h : k < w.heap.size) => by simp; omega) _)
  have hs : (w2B w 5 off size da dn dc).heap.size = w.heap.size + 2 := by simp
  have hb1 : (w2B w 5 off size da dn dc).heap[w.heap.size + 1]? = some (.cells #[.int .i64 0, .slice none 0 0, .int .i64 0, .int .i64 0] 60 (0, 0)) := heap_alloc2_new w _ _
  change Calls Tryz.prog _ _ (w2B w 5 off size da dn dc) _
  generalize w2B w 5 off size da dn dc = W2 at *
  obtain ⟨tg1, t1o, t1n, h2⟩ := H.out.fresh hW
  refine (rbegin h2 ht).mono ?_
  rintro e w3 ⟨rfl, tg3, b, mm, h3, t3, kk⟩
  have k3 : Keeps (OutR tg1 W2 gr) W2 w3 := kk.mono fun j hj => ⟨hj.1, hj.2.2⟩
  replace hb1 := (k3.block (w.heap.size + 1) ⟨by omega, by rw [t1n _ (by omega)]; decide, by omega⟩).trans hb1
  have HB1 := Lib.hid hb1
  have V := Lib.hid h3.vars
  have FIN := Lib.hid (fun (W' : World) (rv : Value) (r : Res) => callR_end (X := fun _ => False) (W' := W') (rv := rv) (r := r) (R := fun r S' => SStep S 5 off size xs r S') hW (Nat.le_of_eq hs.symm) t1o t1n h3 t3 k3 (fun _ h => h.elim))
  clear hb1 hW hs h2 h3 k3 t1o t1n hgr
  obtain ⟨b0, b1⟩ := cells_at HB1.out
  have x0 := b0 0
  have x1 := b0 1
  have x2 := b0 2
  have x3 := b0 3
  have f0 := b1 0
  have f1 := b1 1
  have f2 := b1 2
  have f3 := b1 3
  simp only [List.getElem?_toArray, List.getElem?_cons_succ, List.getElem?_cons_zero] at x0 x1 x2 x3
  clear b0 b1
  dsimp only
  (repeat (first | go_values | go_skip | go_guarded | go_step | go_upon))
  refine (kind_nil _).mono ?_
  rintro e w4 ⟨rfl, rfl⟩
  dsimp only
  (repeat (first | go_values | go_skip | go_guarded | go_step | go_upon))
  have q0 := heap_set_same HB1.out 3 (.int .i64 0)
  have k0 := (Keeps.setCell (Pr := fun k => k ≠ w.heap.size + 1) (a := ⟨w.heap.size + 1, 3, none⟩) (fun h => h rfl) (.int .i64 0) : Keeps _ w4 _)
  have q1 := heap_set_same q0 0 (.int .i64 0)
  have k1 := k0.trans (Keeps.setCell (Pr := fun k => k ≠ w.heap.size + 1) (a := ⟨w.heap.size + 1, 0, none⟩) (fun h => h rfl) (.int .i64 0))
  have q2 := heap_set_same q1 1 (.slice none 0 0)
  have k2 := k1.trans (Keeps.setCell (Pr := fun k => k ≠ w.heap.size + 1) (a := ⟨w.heap.size + 1, 1, none⟩) (fun h => h rfl) (.slice none 0 0))
  have q3 := heap_set_same q2 2 (.int .i64 0)
  have k3 := k2.trans (Keeps.setCell (Pr := fun k => k ≠ w.heap.size + 1) (a := ⟨w.heap.size + 1, 2, none⟩) (fun h => h rfl) (.int .i64 0))
  have q4 := heap_set_same q3 3 (.int .i64 0)
  have k4 := k3.trans (Keeps.setCell (Pr := fun k => k ≠ w.heap.size + 1) (a := ⟨w.heap.size + 1, 3, none⟩) (fun h => h rfl) (.int .i64 0))
  exact bodyPost_ret (results_cell_row rfl _ _ (w.heap.size + 1) 60 _ _ _ rfl q4 Tryz.underlying60 rfl (by kernel_rfl)) rfl
    (FIN.out _ _ _ k4 (res_nil _ _ 0 0 0) ⟨fun e => absurd e (by decide), fun e => absurd e (by decide), fun e => absurd e (by decide), fun e => absurd e (by decide), fun e => absurd e (by decide), fun _ => ⟨rfl, b, mm, rfl⟩, fun e => absurd e (by decide), fun e => absurd e (by decide)⟩)

set_option maxRecDepth 100000 in
set_option maxHeartbeats 4000000 in
theorem call_roll_60 {tg : Nat → Nat × Nat} {w : World} {gr gc : Nat} {S : St} {va vb : Addr} (off size : Int) (da : Option Addr) (dn dc : Nat) (xs : List UInt8) (h : RbIs 0 0 0 tg w gr gc S va vb) (ht : S.t = 0) :
    Calls Tryz.prog 26 #[.iface 57 (.pointer (some ⟨gr, 0, none⟩)), .agg #[.int .i64 6, .int .i64 off, .int .i64 size, .slice da dn dc]] w
      (CallR tg w gr gc va vb fun r S' => SStep S 6 off size xs r S') := by
  have H := Lib.hid h
  have hgr := lt_of_heap (h.roll.choose_spec.1)
  have HT := Lib.hid ht
  clear h ht
  go_enter Tryz.func26, Tryz.ntmps26
  (repeat (first | go_values | go_skip | go_guarded | go_step | go_upon))
  have hW : Keeps (Old w) w (w2B w 6 off size da dn dc) := (Keeps.alloc (fun _ h => h) _).trans (Keeps.alloc (fun k (h : k < w.heap.size) => by simp; omega) _)
  have hs : (w2B w 6 off size da dn dc).heap.size = w.heap.size + 2 := by simp
  have hb1 : (w2B w 6 off size da dn dc).heap[w.heap.size + 1]? = some (.cells #[.int .i64 0, .slice none 0 0, .int .i64 0, .int .i64 0] 60 (0, 0)) := heap_alloc2_new w _ _
  change Calls Tryz.prog _ _ (w2B w 6 off size da dn dc) _
  generalize w2B w 6 off size da dn dc = W2 at *
  obtain ⟨tg1, t1o, t1n, h2⟩ := H.out.fresh hW
  refine (rend0 h2 HT.out).mono ?_
  rintro e w3 ⟨p, rfl, h3, kk⟩
  have k3 : Keeps (OutR tg1 W2 gr) W2 w3 := kk.mono fun j hj => ⟨hj.1, hj.2.2⟩
  replace hb1 := (k3.block (w.heap.size + 1) ⟨by omega, by rw [t1n _ (by omega)]; decide, by omega⟩).trans hb1
  have HB1 := Lib.hid hb1
  have V := Lib.hid h3.vars
  have FIN := Lib.hid (fun (W' : World) (rv : Value) (r : Res) => callR_end (X := fun _ => False) (W' := W') (rv := rv) (r := r) (R := fun r S' => SStep S 6 off size xs r S') hW (Nat.le_of_eq hs.symm) t1o t1n h3 (fun _ _ => rfl) k3 (fun _ h => h.elim))
  clear hb1 hW hs h2 h3 k3 t1o t1n hgr
  obtain ⟨b0, b1⟩ := cells_at HB1.out
  have x0 := b0 0
  have x1 := b0 1
  have x2 := b0 2
  have x3 := b0 3
  have f0 := b1 0
  have f1 := b1 1
  have f2 := b1 2
  have f3 := b1 3
  simp only [List.getElem?_toArray, List.getElem?_cons_succ, List.getElem?_cons_zero] at x0 x1 x2 x3
  clear b0 b1
  dsimp only
  (repeat (first | go_values | go_skip | go_guarded | go_step | go_upon))
  have hv := V.out.keeps (w' := w3) (Keeps.refl _ _)
  refine (kind_perm2 _ _ va vb _ hv).mono ?_
  rintro e w4 ⟨rfl, rfl⟩
  clear hv
  dsimp only
  (repeat (first | go_values | go_skip | go_guarded | go_step | go_upon))
  have q0 := heap_set_same HB1.out 3 (.int .i64 2)
  have k0 := (Keeps.setCell (Pr := fun k => k ≠ w.heap.size + 1) (a := ⟨w.heap.size + 1, 3, none⟩) (fun h => h rfl) (.int .i64 2) : Keeps _ w4 _)
  have q1 := heap_set_same q0 0 (.int .i64 0)
  have k1 := k0.trans (Keeps.setCell (Pr := fun k => k ≠ w.heap.size + 1) (a := ⟨w.heap.size + 1, 0, none⟩) (fun h => h rfl) (.int .i64 0))
  have q2 := heap_set_same q1 1 (.slice none 0 0)
  have k2 := k1.trans (Keeps.setCell (Pr := fun k => k ≠ w.heap.size + 1) (a := ⟨w.heap.size + 1, 1, none⟩) (fun h => h rfl) (.slice none 0 0))
  have q3 := heap_set_same q2 2 (.int .i64 0)
  have k3 := k2.trans (Keeps.setCell (Pr := fun k => k ≠ w.heap.size + 1) (a := ⟨w.heap.size + 1, 2, none⟩) (fun h => h rfl) (.int .i64 0))
  have q4 := heap_set_same q3 3 (.int .i64 2)
  have k4 := k3.trans (Keeps.setCell (Pr := fun k => k ≠ w.heap.size + 1) (a := ⟨w.heap.size + 1, 3, none⟩) (fun h => h rfl) (.int .i64 2))
  exact bodyPost_ret (results_cell_row rfl _ _ (w.heap.size + 1) 60 _ _ _ rfl q4 Tryz.underlying60 rfl (by kernel_rfl)) rfl
    (FIN.out _ _ _ k4 (res_nil _ _ 0 0 2) ⟨fun _ _ => ⟨rfl, rfl⟩, fun e => absurd e (by decide), fun e => absurd e (by decide), fun e => absurd e (by decide), fun e => absurd e (by decide), fun e => absurd e (by decide), fun _ h0 => absurd HT.out (Nat.pos_iff_ne_zero.1 h0), fun e => absurd e (by decide)⟩)

set_option maxRecDepth 100000 in
set_option maxHeartbeats 4000000 in
theorem call_roll_70 {tg : Nat → Nat × Nat} {w : World} {gr gc : Nat} {S : St} {va vb : Addr} (off size : Int) (da : Option Addr) (dn dc : Nat) (xs : List UInt8) (h : RbIs 0 0 0 tg w gr gc S va vb) (ht : S.t = 0) :
    Calls Tryz.prog 26 #[.iface 57 (.pointer (some ⟨gr, 0, none⟩)), .agg #[.int .i64 7, .int .i64 off, .int .i64 size, .slice da dn dc]] w
      (CallR tg w gr gc va vb fun r S' => SStep S 7 off size xs r S') := by
  have H := Lib.hid h
  have hgr := lt_of_heap (h.roll.choose_spec.1)
  have HT := Lib.hid ht
  clear h ht
  go_enter Tryz.func26, Tryz.ntmps26
  (repeat (first | go_values | go_skip | go_guarded | go_step | go_upon))
  have hW : Keeps (Old w) w (w2B w 7 off size da dn dc) := (Keeps.alloc (fun _ h => h) _).trans (Keeps.alloc (fun k (h : k < w.heap.size) => by simp; omega) _)
  have hs : (w2B w 7 off size da dn dc).heap.size = w.heap.size + 2 := by simp
  have hb1 : (w2B w 7 off size da dn dc).heap[w.heap.size + 1]? = some (.cells #[.int .i64 0, .slice none 0 0, .int .i64 0, .int .i64 0] 60 (0, 0)) := heap_alloc2_new w _ _
  change Calls Tryz.prog _ _ (w2B w 7 off size da dn dc) _
  generalize w2B w 7 off size da dn dc = W2 at *
  obtain ⟨tg1, t1o, t1n, h2⟩ := H.out.fresh hW
  refine (rroll0 h2 HT.out).mono ?_
  rintro e w3 ⟨p, rfl, h3, kk⟩
  have k3 : Keeps (OutR tg1 W2 gr) W2 w3 := kk.mono fun j hj => ⟨hj.1, hj.2.2⟩
  replace hb1 := (k3.block (w.heap.size + 1) ⟨by omega, by rw [t1n _ (by omega)]; decide, by omega⟩).trans hb1
  have HB1 := Lib.hid hb1
  have V := Lib.hid h3.vars
  have FIN := Lib.hid (fun (W' : World) (rv : Value) (r : Res) => callR_end (X := fun _ => False) (W' := W') (rv := rv) (r := r) (R := fun r S' => SStep S 7 off size xs r S') hW (Nat.le_of_eq hs.symm) t1o t1n h3 (fun _ _ => rfl) k3 (fun _ h => h.elim))
  clear hb1 hW hs h2 h3 k3 t1o t1n hgr
  obtain ⟨b0, b1⟩ := cells_at HB1.out
  have x0 := b0 0
  have x1 := b0 1
  have x2 := b0 2
  have x3 := b0 3
  have f0 := b1 0
  have f1 := b1 1
  have f2 := b1 2
  have f3 := b1 3
  simp only [List.getElem?_toArray, List.getElem?_cons_succ, List.getElem?_cons_zero] at x0 x1 x2 x3
  clear b0 b1
  dsimp only
  (repeat (first | go_values | go_skip | go_guarded | go_step | go_upon))
  have hv := V.out.keeps (w' := w3) (Keeps.refl _ _)
  refine (kind_perm2 _ _ va vb _ hv).mono ?_
  rintro e w4 ⟨rfl, rfl⟩
  clear hv
  dsimp only
  (repeat (first | go_values | go_skip | go_guarded | go_step | go_upon))
  have q0 := heap_set_same HB1.out 3 (.int .i64 2)
  have k0 := (Keeps.setCell (Pr := fun k => k ≠ w.heap.size + 1) (a := ⟨w.heap.size + 1, 3, none⟩) (fun h => h rfl) (.int .i64 2) : Keeps _ w4 _)
  have q1 := heap_set_same q0 0 (.int .i64 0)
  have k1 := k0.trans (Keeps.setCell (Pr := fun k => k ≠ w.heap.size + 1) (a := ⟨w.heap.size + 1, 0, none⟩) (fun h => h rfl) (.int .i64 0))
  have q2 := heap_set_same q1 1 (.slice none 0 0)
  have k2 := k1.trans (Keeps.setCell (Pr := fun k => k ≠ w.heap.size + 1) (a := ⟨w.heap.size + 1, 1, none⟩) (fun h => h rfl) (.slice none 0 0))
  have q3 := heap_set_same q2 2 (.int .i64 0)
  have k3 := k2.trans (Keeps.setCell (Pr := fun k => k ≠ w.heap.size + 1) (a := ⟨w.heap.size + 1, 2, none⟩) (fun h => h rfl) (.int .i64 0))
  have q4 := heap_set_same q3 3 (.int .i64 2)
  have k4 := k3.trans (Keeps.setCell (Pr := fun k => k ≠ w.heap.size + 1) (a := ⟨w.heap.size + 1, 3, none⟩) (fun h => h rfl) (.int .i64 2))
  exact bodyPost_ret (results_cell_row rfl _ _ (w.heap.size + 1) 60 _ _ _ rfl q4 Tryz.underlying60 rfl (by kernel_rfl)) rfl
    (FIN.out _ _ _ k4 (res_nil _ _ 0 0 2) ⟨fun _ _ => ⟨rfl, rfl⟩, fun e => absurd e (by decide), fun e => absurd e (by decide), fun e => absurd e (by decide), fun e => absurd e (by decide), fun e => absurd e (by decide), fun e => absurd e (by decide), fun _ h0 => absurd HT.out (Nat.pos_iff_ne_zero.1 h0)⟩)

set_option maxRecDepth 100000 in
set_option maxHeartbeats 4000000 in
theorem call_roll_20 {tg : Nat → Nat × Nat} {w : World} {gr gc : Nat} {S : St} {va vb : Addr} (off size : Int) (da : Option Addr) (dn dc : Nat) (xs : List UInt8) (h : RbIs 0 0 0 tg w gr gc S va vb) (ht : S.t = 0) :
    Calls Tryz.prog 26 #[.iface 57 (.pointer (some ⟨gr, 0, none⟩)), .agg #[.int .i64 2, .int .i64 off, .int .i64 size, .slice da dn dc]] w
      (CallR tg w gr gc va vb fun r S' => SStep S 2 off size xs r S') := by
  have H := Lib.hid h
  have hgr := lt_of_heap (h.roll.choose_spec.1)
  have HT := Lib.hid ht
  clear h ht
  go_enter Tryz.func26, Tryz.ntmps26
  (repeat (first | go_values | go_skip | go_guarded | go_step | go_upon))
  have hW : Keeps (Old w) w (w2B w 2 off size da dn dc) := (Keeps.alloc (fun _ h => h) _).trans (Keeps.alloc (fun k (h : k < w.heap.size) => by simp; omega) _)
  have hs : (w2B w 2 off size da dn dc).heap.size = w.heap.size + 2 := by simp
  have hb1 : (w2B w 2 off size da dn dc).heap[w.heap.size + 1]? = some (.cells #[.int .i64 0, .slice none 0 0, .int .i64 0, .int .i64 0] 60 (0, 0)) := heap_alloc2_new w _ _
  change Calls Tryz.prog _ _ (w2B w 2 off size da dn dc) _
  generalize w2B w 2 off size da dn dc = W2 at *
  obtain ⟨tg1, t1o, t1n, h2⟩ := H.out.fresh hW
  refine (rtrunc0 size h2 HT.out).mono ?_
  rintro e w3 ⟨p, rfl, h3, kk⟩
  have k3 : Keeps (OutR tg1 W2 gr) W2 w3 := kk.mono fun j hj => ⟨hj.1, hj.2.2⟩
  replace hb1 := (k3.block (w.heap.size + 1) ⟨by omega, by rw [t1n _ (by omega)]; decide, by omega⟩).trans hb1
  have HB1 := Lib.hid hb1
  have V := Lib.hid h3.vars
  have FIN := Lib.hid (fun (W' : World) (rv : Value) (r : Res) => callR_end (X := fun _ => False) (W' := W') (rv := rv) (r := r) (R := fun r S' => SStep S 2 off size xs r S') hW (Nat.le_of_eq hs.symm) t1o t1n h3 (fun _ _ => rfl) k3 (fun _ h => h.elim))
  clear hb1 hW hs h2 h3 k3 t1o t1n hgr
  obtain ⟨b0, b1⟩ := cells_at HB1.out
  have x0 := b0 0
  have x1 := b0 1
  have x2 := b0 2
  have x3 := b0 3
  have f0 := b1 0
  have f1 := b1 1
  have f2 := b1 2
  have f3 := b1 3
  simp only [List.getElem?_toArray, List.getElem?_cons_succ, List.getElem?_cons_zero] at x0 x1 x2 x3
  clear b0 b1
  dsimp only
  (repeat (first | go_values | go_skip | go_guarded | go_step | go_upon))
  have hv := V.out.keeps (w' := w3) (Keeps.refl _ _)
  refine (kind_perm2 _ _ va vb _ hv).mono ?_
  rintro e w4 ⟨rfl, rfl⟩
  clear hv
  dsimp only
  (repeat (first | go_values | go_skip | go_guarded | go_step | go_upon))
  have q0 := heap_set_same HB1.out 3 (.int .i64 2)
  have k0 := (Keeps.setCell (Pr := fun k => k ≠ w.heap.size + 1) (a := ⟨w.heap.size + 1, 3, none⟩) (fun h => h rfl) (.int .i64 2) : Keeps _ w4 _)
  have q1 := heap_set_same q0 0 (.int .i64 0)
  have k1 := k0.trans (Keeps.setCell (Pr := fun k => k ≠ w.heap.size + 1) (a := ⟨w.heap.size + 1, 0, none⟩) (fun h => h rfl) (.int .i64 0))
  have q2 := heap_set_same q1 1 (.slice none 0 0)
  have k2 := k1.trans (Keeps.setCell (Pr := fun k => k ≠ w.heap.size + 1) (a := ⟨w.heap.size + 1, 1, none⟩) (fun h => h rfl) (.slice none 0 0))
  have q3 := heap_set_same q2 2 (.int .i64 0)
  have k3 := k2.trans (Keeps.setCell (Pr := fun k => k ≠ w.heap.size + 1) (a := ⟨w.heap.size + 1, 2, none⟩) (fun h => h rfl) (.int .i64 0))
  have q4 := heap_set_same q3 3 (.int .i64 2)
  have k4 := k3.trans (Keeps.setCell (Pr := fun k => k ≠ w.heap.size + 1) (a := ⟨w.heap.size + 1, 3, none⟩) (fun h => h rfl) (.int .i64 2))
  exact bodyPost_ret (results_cell_row rfl _ _ (w.heap.size + 1) 60 _ _ _ rfl q4 Tryz.underlying60 rfl (by kernel_rfl)) rfl
    (FIN.out _ _ _ k4 (res_nil _ _ 0 0 2) ⟨fun _ _ => ⟨rfl, rfl⟩, fun e => absurd e (by decide), fun e => absurd e (by decide), fun _ h0 => absurd HT.out (Nat.pos_iff_ne_zero.1 h0), fun e => absurd e (by decide), fun e => absurd e (by decide), fun e => absurd e (by decide), fun e => absurd e (by decide)⟩)

set_option maxRecDepth 100000 in
set_option maxHeartbeats 4000000 in
theorem call_roll_61 {tg : Nat → Nat × Nat} {w : World} {gr gc : Nat} {S : St} {va vb : Addr} (off size : Int) (da : Option Addr) (dn dc : Nat) (xs : List UInt8) (h : RbIs 0 0 0 tg w gr gc S va vb) (ht : 0 < S.t) :
    Calls Tryz.prog 26 #[.iface 57 (.pointer (some ⟨gr, 0, none⟩)), .agg #[.int .i64 6, .int .i64 off, .int .i64 size, .slice da dn dc]] w
      (CallR tg w gr gc va vb fun r S' => SStep S 6 off size xs r S') := by
  have H := Lib.hid h
  have hgr := lt_of_heap (h.roll.choose_spec.1)
  have HT := Lib.hid ht
  clear h ht
  go_enter Tryz.func26, Tryz.ntmps26
  (repeat (first | go_values | go_skip | go_guarded | go_step | go_upon))
  have hW : Keeps (Old w) w (w2B w 6 off size da dn dc) := (Keeps.alloc (fun _ h => h) _).trans (Keeps.alloc (fun k (h : k < w.heap.size) => by simp; omega) _)
  have hs : (w2B w 6 off size da dn dc).heap.size = w.heap.size + 2 := by simp
  have hb1 : (w2B w 6 off size da dn dc).heap[w.heap.size + 1]? = some (.cells #[.int .i64 0, .slice none 0 0, .int .i64 0, .int .i64 0] 60 (0, 0)) := heap_alloc2_new w _ _
  change Calls Tryz.prog _ _ (w2B w 6 off size da dn dc) _
  generalize w2B w 6 off size da dn dc = W2 at *
  obtain ⟨tg1, t1o, t1n, h2⟩ := H.out.fresh hW
  refine (rend1 h2 HT.out).mono ?_
  rintro e w3 ⟨rfl, tg3, S3, hE, h3, t3, k3⟩
  have HE := Lib.hid hE
  clear hE
  replace hb1 := (k3.block (w.heap.size + 1) ⟨by omega, by rw [t1n _ (by omega)]; decide, by omega⟩).trans hb1
  have HB1 := Lib.hid hb1
  have V := Lib.hid h3.vars
  have FIN := Lib.hid (fun (W' : World) (rv : Value) (r : Res) => callR_end (X := fun _ => False) (W' := W') (rv := rv) (r := r) (R := fun r S' => SStep S 6 off size xs r S') hW (Nat.le_of_eq hs.symm) t1o t1n h3 t3 k3 (fun _ h => h.elim))
  clear hb1 hW hs h2 h3 k3 t1o t1n hgr
  obtain ⟨b0, b1⟩ := cells_at HB1.out
  have x0 := b0 0
  have x1 := b0 1
  have x2 := b0 2
  have x3 := b0 3
  have f0 := b1 0
  have f1 := b1 1
  have f2 := b1 2
  have f3 := b1 3
  simp only [List.getElem?_toArray, List.getElem?_cons_succ, List.getElem?_cons_zero] at x0 x1 x2 x3
  clear b0 b1
  dsimp only
  (repeat (first | go_values | go_skip | go_guarded | go_step | go_upon))
  refine (kind_nil _).mono ?_
  rintro e w4 ⟨rfl, rfl⟩
  dsimp only
  (repeat (first | go_values | go_skip | go_guarded | go_step | go_upon))
  have q0 := heap_set_same HB1.out 3 (.int .i64 0)
  have k0 := (Keeps.setCell (Pr := fun k => k ≠ w.heap.size + 1) (a := ⟨w.heap.size + 1, 3, none⟩) (fun h => h rfl) (.int .i64 0) : Keeps _ w4 _)
  have q1 := heap_set_same q0 0 (.int .i64 0)
  have k1 := k0.trans (Keeps.setCell (Pr := fun k => k ≠ w.heap.size + 1) (a := ⟨w.heap.size + 1, 0, none⟩) (fun h => h rfl) (.int .i64 0))
  have q2 := heap_set_same q1 1 (.slice none 0 0)
  have k2 := k1.trans (Keeps.setCell (Pr := fun k => k ≠ w.heap.size + 1) (a := ⟨w.heap.size + 1, 1, none⟩) (fun h => h rfl) (.slice none 0 0))
  have q3 := heap_set_same q2 2 (.int .i64 0)
  have k3 := k2.trans (Keeps.setCell (Pr := fun k => k ≠ w.heap.size + 1) (a := ⟨w.heap.size + 1, 2, none⟩) (fun h => h rfl) (.int .i64 0))
  have q4 := heap_set_same q3 3 (.int .i64 0)
  have k4 := k3.trans (Keeps.setCell (Pr := fun k => k ≠ w.heap.size + 1) (a := ⟨w.heap.size + 1, 3, none⟩) (fun h => h rfl) (.int .i64 0))
  exact bodyPost_ret (results_cell_row rfl _ _ (w.heap.size + 1) 60 _ _ _ rfl q4 Tryz.underlying60 rfl (by kernel_rfl)) rfl
    (FIN.out _ _ _ k4 (res_nil _ _ 0 0 0) ⟨fun _ h0 => absurd h0 (Nat.pos_iff_ne_zero.1 HT.out), fun e => absurd e (by decide), fun e => absurd e (by decide), fun e => absurd e (by decide), fun e => absurd e (by decide), fun e => absurd e (by decide), fun _ _ => ⟨rfl, HE.out⟩, fun e => absurd e (by decide)⟩)

set_option maxRecDepth 100000 in
set_option maxHeartbeats 4000000 in
theorem call_roll_71 {tg : Nat → Nat × Nat} {w : World} {gr gc : Nat} {S : St} {va vb : Addr} (off size : Int) (da : Option Addr) (dn dc : Nat) (xs : List UInt8) (h : RbIs 0 0 0 tg w gr gc S va vb) (ht : 0 < S.t) :
    Calls Tryz.prog 26 #[.iface 57 (.pointer (some ⟨gr, 0, none⟩)), .agg #[.int .i64 7, .int .i64 off, .int .i64 size, .slice da dn dc]] w
      (CallR tg w gr gc va vb fun r S' => SStep S 7 off size xs r S') := by
  have H := Lib.hid h
  have hgr := lt_of_heap (h.roll.choose_spec.1)
  have HT := Lib.hid ht
  clear h ht
  go_enter Tryz.func26, Tryz.ntmps26
  (repeat (first | go_values | go_skip | go_guarded | go_step | go_upon))
  have hW : Keeps (Old w) w (w2B w 7 off size da dn dc) := (Keeps.alloc (fun _ h => h) _).trans (Keeps.alloc (fun k (h : k < w.heap.size) => by simp; omega) _)
  have hs : (w2B w 7 off size da dn dc).heap.size = w.heap.size + 2 := by simp
  have hb1 : (w2B w 7 off size da dn dc).heap[w.heap.size + 1]? = some (.cells #[.int .i64 0, .slice none 0 0, .int .i64 0, .int .i64 0] 60 (0, 0)) := heap_alloc2_new w _ _
  change Calls Tryz.prog _ _ (w2B w 7 off size da dn dc) _
  generalize w2B w 7 off size da dn dc = W2 at *
  obtain ⟨tg1, t1o, t1n, h2⟩ := H.out.fresh hW
  refine (rroll1 h2 HT.out).mono ?_
  rintro e w3 ⟨rfl, h3, kk⟩
  have k3 : Keeps (OutR tg1 W2 gr) W2 w3 := kk.mono fun j hj => ⟨hj.1, hj.2.2⟩
  replace hb1 := (k3.block (w.heap.size + 1) ⟨by omega, by rw [t1n _ (by omega)]; decide, by omega⟩).trans hb1
  have HB1 := Lib.hid hb1
  have V := Lib.hid h3.vars
  have FIN := Lib.hid (fun (W' : World) (rv : Value) (r : Res) => callR_end (X := fun _ => False) (W' := W') (rv := rv) (r := r) (R := fun r S' => SStep S 7 off size xs r S') hW (Nat.le_of_eq hs.symm) t1o t1n h3 (fun _ _ => rfl) k3 (fun _ h => h.elim))
  clear hb1 hW hs h2 h3 k3 t1o t1n hgr
  obtain ⟨b0, b1⟩ := cells_at HB1.out
  have x0 := b0 0
  have x1 := b0 1
  have x2 := b0 2
  have x3 := b0 3
  have f0 := b1 0
  have f1 := b1 1
  have f2 := b1 2
  have f3 := b1 3
  simp only [List.getElem?_toArray, List.getElem?_cons_succ, List.getElem?_cons_zero] at x0 x1 x2 x3
  clear b0 b1
  dsimp only
  (repeat (first | go_values | go_skip | go_guarded | go_step | go_upon))
  refine (kind_nil _).mono ?_
  rintro e w4 ⟨rfl, rfl⟩
  dsimp only
  (repeat (first | go_values | go_skip | go_guarded | go_step | go_upon))
  have q0 := heap_set_same HB1.out 3 (.int .i64 0)
  have k0 := (Keeps.setCell (Pr := fun k => k ≠ w.heap.size + 1) (a := ⟨w.heap.size + 1, 3, none⟩) (fun h => h rfl) (.int .i64 0) : Keeps _ w4 _)
  have q1 := heap_set_same q0 0 (.int .i64 0)
  have k1 := k0.trans (Keeps.setCell (Pr := fun k => k ≠ w.heap.size + 1) (a := ⟨w.heap.size + 1, 0, none⟩) (fun h => h rfl) (.int .i64 0))
  have q2 := heap_set_same q1 1 (.slice none 0 0)
  have k2 := k1.trans (Keeps.setCell (Pr := fun k => k ≠ w.heap.size + 1) (a := ⟨w.heap.size + 1, 1, none⟩) (fun h => h rfl) (.slice none 0 0))
  have q3 := heap_set_same q2 2 (.int .i64 0)
  have k3 := k2.trans (Keeps.setCell (Pr := fun k => k ≠ w.heap.size + 1) (a := ⟨w.heap.size + 1, 2, none⟩) (fun h => h rfl) (.int .i64 0))
  have q4 := heap_set_same q3 3 (.int .i64 0)
  have k4 := k3.trans (Keeps.setCell (Pr := fun k => k ≠ w.heap.size + 1) (a := ⟨w.heap.size + 1, 3, none⟩) (fun h => h rfl) (.int .i64 0))
  exact bodyPost_ret (results_cell_row rfl _ _ (w.heap.size + 1) 60 _ _ _ rfl q4 Tryz.underlying60 rfl (by kernel_rfl)) rfl
    (FIN.out _ _ _ k4 (res_nil _ _ 0 0 0) ⟨fun _ h0 => absurd h0 (Nat.pos_iff_ne_zero.1 HT.out), fun e => absurd e (by decide), fun e => absurd e (by decide), fun e => absurd e (by decide), fun e => absurd e (by decide), fun e => absurd e (by decide), fun e => absurd e (by decide), fun _ _ => ⟨rfl, rfl⟩⟩)

set_option maxRecDepth 100000 in
set_option maxHeartbeats 4000000 in
theorem call_roll_21 {tg : Nat → Nat × Nat} {w : World} {gr gc : Nat} {S : St} {va vb : Addr} (off : Int) (n : Nat) (da : Option Addr) (dn dc : Nat) (xs : List UInt8) (h : RbIs 0 0 0 tg w gr gc S va vb) (ht : 0 < S.t) (hn : n ≤ 299008) :
    Calls Tryz.prog 26 #[.iface 57 (.pointer (some ⟨gr, 0, none⟩)), .agg #[.int .i64 2, .int .i64 off, .int .i64 (n : Int), .slice da dn dc]] w
      (CallR tg w gr gc va vb fun r S' => SStep S 2 off (n : Int) xs r S') := by
  have H := Lib.hid h
  have hgr := lt_of_heap (h.roll.choose_spec.1)
  have HT := Lib.hid ht
  have HN := Lib.hid hn
  clear h ht hn
  go_enter Tryz.func26, Tryz.ntmps26
  (repeat (first | go_values | go_skip | go_guarded | go_step | go_upon))
  have hW : Keeps (Old w) w (w2B w 2 off (n : Int) da dn dc) := (Keeps.alloc (fun _ h => h) _).trans (Keeps.alloc (fun k (h : k < w.heap.size) => by simp; omega) _)
  have hs : (w2B w 2 off (n : Int) da dn dc).heap.size = w.heap.size + 2 := by simp
  have hb1 : (w2B w 2 off (n : Int) da dn dc).heap[w.heap.size + 1]? = some (.cells #[.int .i64 0, .slice none 0 0, .int .i64 0, .int .i64 0] 60 (0, 0)) := heap_alloc2_new w _ _
  change Calls Tryz.prog _ _ (w2B w 2 off (n : Int) da dn dc) _
  generalize w2B w 2 off (n : Int) da dn dc = W2 at *
  obtain ⟨tg1, t1o, t1n, h2⟩ := H.out.fresh hW
  refine (rtrunc1 n h2 HT.out HN.out).mono ?_
  rintro e w3 ⟨rfl, tg3, S3, hL, h3, t3, k3⟩
  have HL := Lib.hid hL
  clear hL
  replace hb1 := (k3.block (w.heap.size + 1) ⟨by omega, by rw [t1n _ (by omega)]; decide, by omega⟩).trans hb1
  have HB1 := Lib.hid hb1
  have V := Lib.hid h3.vars
  have FIN := Lib.hid (fun (W' : World) (rv : Value) (r : Res) => callR_end (X := fun _ => False) (W' := W') (rv := rv) (r := r) (R := fun r S' => SStep S 2 off (n : Int) xs r S') hW (Nat.le_of_eq hs.symm) t1o t1n h3 t3 k3 (fun _ h => h.elim))
  clear hb1 hW hs h2 h3 k3 t1o t1n hgr
  obtain ⟨b0, b1⟩ := cells_at HB1.out
  have x0 := b0 0
  have x1 := b0 1
  have x2 := b0 2
  have x3 := b0 3
  have f0 := b1 0
  have f1 := b1 1
  have f2 := b1 2
  have f3 := b1 3
  simp only [List.getElem?_toArray, List.getElem?_cons_succ, List.getElem?_cons_zero] at x0 x1 x2 x3
  clear b0 b1
  dsimp only
  (repeat (first | go_values | go_skip | go_guarded | go_step | go_upon))
  refine (kind_nil _).mono ?_
  rintro e w4 ⟨rfl, rfl⟩
  dsimp only
  (repeat (first | go_values | go_skip | go_guarded | go_step | go_upon))
  have q0 := heap_set_same HB1.out 3 (.int .i64 0)
  have k0 := (Keeps.setCell (Pr := fun k => k ≠ w.heap.size + 1) (a := ⟨w.heap.size + 1, 3, none⟩) (fun h => h rfl) (.int .i64 0) : Keeps _ w4 _)
  have q1 := heap_set_same q0 0 (.int .i64 0)
  have k1 := k0.trans (Keeps.setCell (Pr := fun k => k ≠ w.heap.size + 1) (a := ⟨w.heap.size + 1, 0, none⟩) (fun h => h rfl) (.int .i64 0))
  have q2 := heap_set_same q1 1 (.slice none 0 0)
  have k2 := k1.trans (Keeps.setCell (Pr := fun k => k ≠ w.heap.size + 1) (a := ⟨w.heap.size + 1, 1, none⟩) (fun h => h rfl) (.slice none 0 0))
  have q3 := heap_set_same q2 2 (.int .i64 0)
  have k3 := k2.trans (Keeps.setCell (Pr := fun k => k ≠ w.heap.size + 1) (a := ⟨w.heap.size + 1, 2, none⟩) (fun h => h rfl) (.int .i64 0))
  have q4 := heap_set_same q3 3 (.int .i64 0)
  have k4 := k3.trans (Keeps.setCell (Pr := fun k => k ≠ w.heap.size + 1) (a := ⟨w.heap.size + 1, 3, none⟩) (fun h => h rfl) (.int .i64 0))
  exact bodyPost_ret (results_cell_row rfl _ _ (w.heap.size + 1) 60 _ _ _ rfl q4 Tryz.underlying60 rfl (by kernel_rfl)) rfl
    (FIN.out _ _ _ k4 (res_nil _ _ 0 0 0) ⟨fun _ h0 => absurd h0 (Nat.pos_iff_ne_zero.1 HT.out), fun e => absurd e (by decide), fun e => absurd e (by decide), fun _ _ => ⟨rfl, HL.out⟩, fun e => absurd e (by decide), fun e => absurd e (by decide), fun e => absurd e (by decide), fun e => absurd e (by decide)⟩)

end Go.Proofs.YtkkliejgmgmebaaGreatDoor
