/-
  impl.call over a RollbackFiler: reading.
-/
import Derived.Test.YtkkliejgmgmebaaGreatDoorR29
namespace Go.Proofs.YtkkliejgmgmebaaGreatDoor
open Go.RowKit

set_option maxRecDepth 100000 in
set_option maxHeartbeats 4000000 in
theorem call_roll_1 {tg : Nat → Nat × Nat} {w : World} {gr gc : Nat} {S : St} {va vb : Addr} (off n : Nat) (da : Option Addr) (dn dc : Nat) (xs : List UInt8) (h : RbIs 0 0 0 tg w gr gc S va vb) (hn0 : 0 < n) (hn : n ≤ 65536) (ho : off ≤ 1000000) :
    Calls Tryz.prog 26 #[.iface 57 (.pointer (some ⟨gr, 0, none⟩)), .agg #[.int .i64 1, .int .i64 (off : Int), .int .i64 (n : Int), .slice da dn dc]] w
      (CallR tg w gr gc va vb fun r S' => SStep S 1 off n xs r S') := by
  obtain ⟨i0, hi, hz0, hz1, hz2⟩ := info_parts infoU8
  have hmk := fun W => make_run (P := Tryz.prog) W 22 5 i0 (.int .u8 0) Tryz.underlying22 hi hz0 hz1 hz2 n (by omega)
  have H := Lib.hid h
  have hgr := lt_of_heap (h.roll.choose_spec.1)
  clear h
  go_enter Tryz.func26, Tryz.ntmps26
  (repeat (first | go_values | go_skip | go_guarded | go_step | go_upon))
  have hW : Keeps (Old w) w (w2B w 1 off n da dn dc) := (Keeps.alloc (fun _ h => h) _).trans (Keeps.alloc (fun k (h : k < w.heap.size) => by simp; omega) _)
  have hs : (w2B w 1 off n da dn dc).heap.size = w.heap.size + 2 := by simp
  have hb1 : (w2B w 1 off n da dn dc).heap[w.heap.size + 1]? = some (.cells #[.int .i64 0, .slice none 0 0, .int .i64 0, .int .i64 0] 60 (0, 0)) := heap_alloc2_new w _ _
  change Calls Tryz.prog _ _ ((w2B w 1 off n da dn dc).alloc (.cells (madeCells #[.int .u8 0] n) 5)) _
  generalize w2B w 1 off n da dn dc = W2 at *
  have hrow := Row.make NoP W2 (fun _ h => h.elim) 5 (.int .u8 0) n (by omega) (B := w.heap.size + 1 + 1) (by omega)
  rw [u8s_zeros] at hrow
  have hW3 : Keeps (Old w) w (W2.alloc (.cells (madeCells #[.int .u8 0] n) 5)) := hW.trans (Keeps.alloc (fun k (h : k < w.heap.size) => by omega) _)
  have hs3 : (W2.alloc (.cells (madeCells #[.int .u8 0] n) 5)).heap.size = w.heap.size + 3 := by simp; omega
  replace hb1 := (heap_alloc_lt W2 (.cells (madeCells #[.int .u8 0] n) 5) (show w.heap.size + 1 < W2.heap.size by omega)).trans hb1
  generalize W2.alloc (.cells (madeCells #[.int .u8 0] n) 5) = W3 at *
  obtain ⟨tg1, t1o, t1n, h2⟩ := H.out.fresh hW3
  have hgb : tg1 (w.heap.size + 1 + 1) = (500, 0) := t1n _ (by omega)
  refine (rread h2 (by rw [hgb]; decide) (by rw [hgb]; decide) hrow hn0 hn ho).mono ?_
  rintro e w4 ⟨tg3, S3, d, er, rfl, hd, her, hL, h3, t3, hr3, k3⟩
  rw [u8s_splice] at hr3
  have hdn : d ≤ n := by omega
  have x9 : (d : Int) ≤ n := by omega
  have x8 : (0 : Int) ≤ d := by omega
  have hdl : (S.rd S.t off d).length = d := St.rd_length _ _ _ _
  replace hb1 := (k3.block (w.heap.size + 1) ⟨⟨by omega, by rw [t1n _ (by omega)]; decide, by omega⟩, by omega⟩).trans hb1
  have fin1 : ∀ (W' : World) (err : Int), Keeps (fun k => k ≠ w.heap.size + 1) w4 W' → (err = 0 ∨ err = 1) →
      CallR tg w gr gc va vb (fun r S' => SStep S 1 off n xs r S') (.returned (.agg #[.int .i64 (d : Int), .slice (some ⟨w.heap.size + 1 + 1, 0, none⟩) d n, .int .i64 0, .int .i64 err])) W' := by
    intro W' err hkw herr
    have hrd := rd_buffer hr3 hdl hdn (by simp [u8s])
    have hrd2 : Rd (fun k => k = w.heap.size + 1 + 1) W' (some ⟨w.heap.size + 1 + 1, 0, none⟩) d (S.rd S.t off d) := hrd.keeps (hkw.mono fun k e => by rw [e]; omega)
    refine callR_end0 (r := ⟨d, S.rd S.t off d, 0, err⟩) (X := fun k => k = w.heap.size + 1 + 1) hW3 (by omega) t1o t1n h3 t3 (k3.mono fun j hj => ⟨hj.1, by have := hj.2; omega⟩) (fun k e => by omega) hkw ⟨some ⟨w.heap.size + 1 + 1, 0, none⟩, n, by rw [hdl], by rw [hdl]; exact hdn, by rw [hdl]; exact hrd2⟩ ?_
    exact ⟨fun e => absurd e (by decide), fun e => absurd e (by decide), fun _ => ⟨d, by rw [Int.toNat_natCast, Int.toNat_natCast]; exact hd, rfl, by rw [Int.toNat_natCast], herr, hL⟩, fun e => absurd e (by decide), fun e => absurd e (by decide), fun e => absurd e (by decide), fun e => absurd e (by decide), fun e => absurd e (by decide)⟩
  have FIN := Lib.hid fin1
  have HB1 := Lib.hid hb1
  have V := Lib.hid h3.vars
  have HB1T : tg3 (w.heap.size + 1) = (500, 0) := (t3 _ (by omega)).trans (t1n _ (by omega))
  clear fin1 hb1 hs hs3 hW hW3 hrow h2 h3 hr3 k3 t3 t1o t1n hd hdl hL hgb hgr
  obtain ⟨b0, b1⟩ := cells_at HB1.out
  have x0 := b0 0
  have x1 := b0 1
  have x2 := b0 2
  have x3 := b0 3
  have f0 := b1 0
  have f1 := b1 1
  have f2 := b1 2
  have f3 := b1 3
  simp only [List.getElem?_toArray, List.getElem?_cons_succ, List.getElem?_cons_zero] at x0 x1 x2 x3
  clear b0 b1
  dsimp only
  rcases her with rfl | rfl
  · skip
    (repeat (first | go_values | go_skip | go_guarded | go_step | go_upon))
    refine (kind_nil _).mono ?_
    rintro e w6 ⟨rfl, rfl⟩
    dsimp only
    (repeat (first | go_values | go_skip | go_guarded | go_step | go_upon))
    have q0 := heap_set_same HB1.out 0 (.int .i64 (d : Int))
    have k0 := (Keeps.setCell (Pr := fun k => k ≠ w.heap.size + 1) (a := ⟨w.heap.size + 1, 0, none⟩) (fun h => h rfl) (.int .i64 (d : Int)) : Keeps _ w4 _)
    have q1 := heap_set_same q0 1 (.slice (some ⟨w.heap.size + 1 + 1, 0, none⟩) d n)
    have k1 := k0.trans (Keeps.setCell (Pr := fun k => k ≠ w.heap.size + 1) (a := ⟨w.heap.size + 1, 1, none⟩) (fun h => h rfl) (.slice (some ⟨w.heap.size + 1 + 1, 0, none⟩) d n))
    have q2 := heap_set_same q1 3 (.int .i64 0)
    have k2 := k1.trans (Keeps.setCell (Pr := fun k => k ≠ w.heap.size + 1) (a := ⟨w.heap.size + 1, 3, none⟩) (fun h => h rfl) (.int .i64 0))
    have q3 := heap_set_same q2 0 (.int .i64 (d : Int))
    have k3 := k2.trans (Keeps.setCell (Pr := fun k => k ≠ w.heap.size + 1) (a := ⟨w.heap.size + 1, 0, none⟩) (fun h => h rfl) (.int .i64 (d : Int)))
    have q4 := heap_set_same q3 1 (.slice (some ⟨w.heap.size + 1 + 1, 0, none⟩) d n)
    have k4 := k3.trans (Keeps.setCell (Pr := fun k => k ≠ w.heap.size + 1) (a := ⟨w.heap.size + 1, 1, none⟩) (fun h => h rfl) (.slice (some ⟨w.heap.size + 1 + 1, 0, none⟩) d n))
    have q5 := heap_set_same q4 2 (.int .i64 0)
    have k5 := k4.trans (Keeps.setCell (Pr := fun k => k ≠ w.heap.size + 1) (a := ⟨w.heap.size + 1, 2, none⟩) (fun h => h rfl) (.int .i64 0))
    have q6 := heap_set_same q5 3 (.int .i64 0)
    have k6 := k5.trans (Keeps.setCell (Pr := fun k => k ≠ w.heap.size + 1) (a := ⟨w.heap.size + 1, 3, none⟩) (fun h => h rfl) (.int .i64 0))
    exact bodyPost_ret (results_cell_row rfl _ _ (w.heap.size + 1) 60 _ _ _ rfl q6 Tryz.underlying60 rfl (by kernel_rfl)) rfl (FIN.out _ 0 k6 (.inl rfl))
  · skip
    (repeat (first | go_values | go_skip | go_guarded | go_step | go_upon))
    have hv7 := V.out.keeps ((Keeps.setCell (w := w4) (Pr := fun k => k < w4.heap.size ∧ 1000 ≤ (tg3 k).1) (a := ⟨w.heap.size + 1, 0, none⟩) (fun h => by have h2 := h.2; rw [HB1T] at h2; exact absurd h2 (by decide)) (.int .i64 (d : Int))).trans (Keeps.setCell (a := ⟨w.heap.size + 1, 1, none⟩) (fun h => by have h2 := h.2; rw [HB1T] at h2; exact absurd h2 (by decide)) (.slice (some ⟨w.heap.size + 1 + 1, 0, none⟩) d n)))
    have HV7 := Lib.hid hv7
    clear hv7
    refine (kind_eof _ _ va vb HV7.out).mono ?_
    rintro e w6 ⟨rfl, rfl⟩
    dsimp only
    (repeat (first | go_values | go_skip | go_guarded | go_step | go_upon))
    have q0 := heap_set_same HB1.out 0 (.int .i64 (d : Int))
    have k0 := (Keeps.setCell (Pr := fun k => k ≠ w.heap.size + 1) (a := ⟨w.heap.size + 1, 0, none⟩) (fun h => h rfl) (.int .i64 (d : Int)) : Keeps _ w4 _)
    have q1 := heap_set_same q0 1 (.slice (some ⟨w.heap.size + 1 + 1, 0, none⟩) d n)
    have k1 := k0.trans (Keeps.setCell (Pr := fun k => k ≠ w.heap.size + 1) (a := ⟨w.heap.size + 1, 1, none⟩) (fun h => h rfl) (.slice (some ⟨w.heap.size + 1 + 1, 0, none⟩) d n))
    have q2 := heap_set_same q1 3 (.int .i64 1)
    have k2 := k1.trans (Keeps.setCell (Pr := fun k => k ≠ w.heap.size + 1) (a := ⟨w.heap.size + 1, 3, none⟩) (fun h => h rfl) (.int .i64 1))
    have q3 := heap_set_same q2 0 (.int .i64 (d : Int))
    have k3 := k2.trans (Keeps.setCell (Pr := fun k => k ≠ w.heap.size + 1) (a := ⟨w.heap.size + 1, 0, none⟩) (fun h => h rfl) (.int .i64 (d : Int)))
    have q4 := heap_set_same q3 1 (.slice (some ⟨w.heap.size + 1 + 1, 0, none⟩) d n)
    have k4 := k3.trans (Keeps.setCell (Pr := fun k => k ≠ w.heap.size + 1) (a := ⟨w.heap.size + 1, 1, none⟩) (fun h => h rfl) (.slice (some ⟨w.heap.size + 1 + 1, 0, none⟩) d n))
    have q5 := heap_set_same q4 2 (.int .i64 0)
    have k5 := k4.trans (Keeps.setCell (Pr := fun k => k ≠ w.heap.size + 1) (a := ⟨w.heap.size + 1, 2, none⟩) (fun h => h rfl) (.int .i64 0))
    have q6 := heap_set_same q5 3 (.int .i64 1)
    have k6 := k5.trans (Keeps.setCell (Pr := fun k => k ≠ w.heap.size + 1) (a := ⟨w.heap.size + 1, 3, none⟩) (fun h => h rfl) (.int .i64 1))
    exact bodyPost_ret (results_cell_row rfl _ _ (w.heap.size + 1) 60 _ _ _ rfl q6 Tryz.underlying60 rfl (by kernel_rfl)) rfl (FIN.out _ 1 k6 (.inr rfl))

end Go.Proofs.YtkkliejgmgmebaaGreatDoor
