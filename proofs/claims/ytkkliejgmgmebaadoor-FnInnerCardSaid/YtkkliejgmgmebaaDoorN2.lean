/-
  impl.call over an InnerFiler.
-/
import Derived.Test.YtkkliejgmgmebaaDoorN1
import Derived.Test.YtkkliejgmgmebaaDoorM8
namespace Go.Proofs.YtkkliejgmgmebaaDoor
open Go.RowKit

theorem wrB_pre (pre bs xs : List UInt8) (off off0 : Nat) (h : pre.length = off0) : wrB (pre ++ bs) (off0 + off) xs = pre ++ wrB bs off xs := by
  subst h
  unfold wrB
  split
  · rfl
  · have e : pre.length + off + xs.length - (pre ++ bs).length = off + xs.length - bs.length := by rw [List.length_append]; omega
    rw [e, List.append_assoc]
    generalize bs ++ List.replicate (off + xs.length - bs.length) 0 = cs
    unfold splice
    rw [List.take_length_add_append, Nat.add_assoc, List.drop_length_add_append]
    simp only [List.append_assoc]

theorem resB_pre (pre bs : List UInt8) (n off0 : Nat) (h : pre.length = off0) : resB (pre ++ bs) (n + off0) = pre ++ resB bs n := by
  subst h
  unfold resB
  have e : n + pre.length - (pre ++ bs).length = n - bs.length := by rw [List.length_append]; omega
  rw [e, Nat.add_comm, List.take_length_add_append, List.append_assoc]

theorem drop_pre (pre bs : List UInt8) (off off0 : Nat) (h : pre.length = off0) : (pre ++ bs).drop (off0 + off) = bs.drop off := by
  subst h
  rw [List.drop_length_add_append]

set_option maxRecDepth 100000 in
set_option maxHeartbeats 4000000 in
theorem call_inn_4 (Pr : Nat → Prop) (w : World) (gi gm gz off0 : Nat) (v : Value) (pre bs : List UInt8) (off size : Int) (da : Option Addr) (dn dc : Nat) (hp : pre.length = off0) (hb : bs.length ≤ 10000000) (hin : Inw Pr w) (hI : InnAt Pr w gi gm off0) (h : MemIs Pr w gm gz v (pre ++ bs)) :
    Calls Tryd.prog 24 #[.iface 61 (.pointer (some ⟨gi, 0, none⟩)), .agg #[.int .i64 4, .int .i64 off, .int .i64 size, .slice da dn dc]] w
      (CallPost Pr w gm gz (pre ++ bs) fun r => resOk bs 4 off size dn r) := by
  have H := Lib.hid h
  have HI := Lib.hid hin
  have II := Lib.hid hI
  clear h hin hI
  go_enter Tryd.func24, Tryd.ntmps24
  (repeat (first | go_values | go_skip | go_guarded | go_step | go_upon))
  have hW : Keeps (Old w) w (w2B w 4 off size da dn dc) := (Keeps.alloc (fun _ h => h) _).trans (Keeps.alloc (fun k (h : k < w.heap.size) => by simp; omega) _)
  have hs : (w2B w 4 off size da dn dc).heap.size = w.heap.size + 2 := by simp
  have hb0 : (w2B w 4 off size da dn dc).heap[w.heap.size]? = some (.cells #[.int .i64 4, .int .i64 off, .int .i64 size, .slice da dn dc] 47 (0, 0)) := heap_alloc2_old w _ _
  have hb1 : (w2B w 4 off size da dn dc).heap[w.heap.size + 1]? = some (.cells #[.int .i64 0, .slice none 0 0, .int .i64 0, .int .i64 0] 40 (0, 0)) := heap_alloc2_new w _ _
  change Calls Tryd.prog _ _ (w2B w 4 off size da dn dc) _
  generalize w2B w 4 off size da dn dc = W2 at *
  have h2 := H.out.kept hW (fun k hk _ => hk)
  obtain ⟨c0, c1⟩ := (II.out.keeps (hW.mono HI.out)).cells
  refine (isize_any Pr W2 gi gm gz off0 bs.length v (pre ++ bs) (by rw [List.length_append]; omega) c0 c1 h2.c0 h2.zis (by omega)).mono ?_
  rintro e w3 ⟨rfl, rfl⟩
  have HB1 := Lib.hid hb1
  have HM := Lib.hid (H.out.boxed hW)
  clear c0 c1 hb0 hb1 hW hs h2
  obtain ⟨b0, b1⟩ := cells_at HB1.out
  have x0 := b0 0
  have x1 := b0 1
  have x2 := b0 2
  have x3 := b0 3
  have f0 := b1 0
  have f1 := b1 1
  have f2 := b1 2
  have f3 := b1 3
  simp only [List.getElem?_toArray, List.getElem?_cons_succ, List.getElem?_cons_zero] at x0 x1 x2 x3
  clear b0 b1
  dsimp only
  (repeat (first | go_values | go_skip | go_guarded | go_step | go_upon))
  refine (kind_nil _).mono ?_
  rintro e w4 ⟨rfl, rfl⟩
  dsimp only
  (repeat (first | go_values | go_skip | go_guarded | go_step | go_upon))
  have q0 := heap_set_same HB1.out 2 (.int .i64 (bs.length : Int))
  have k0 := (Keeps.setCell (Pr := fun k => k ≠ w.heap.size + 1) (a := ⟨w.heap.size + 1, 2, none⟩) (fun h => h rfl) (.int .i64 (bs.length : Int)) : Keeps _ w3 _)
  have q1 := heap_set_same q0 3 (.int .i64 0)
  have k1 := k0.trans (Keeps.setCell (Pr := fun k => k ≠ w.heap.size + 1) (a := ⟨w.heap.size + 1, 3, none⟩) (fun h => h rfl) (.int .i64 0))
  have q2 := heap_set_same q1 0 (.int .i64 0)
  have k2 := k1.trans (Keeps.setCell (Pr := fun k => k ≠ w.heap.size + 1) (a := ⟨w.heap.size + 1, 0, none⟩) (fun h => h rfl) (.int .i64 0))
  have q3 := heap_set_same q2 1 (.slice none 0 0)
  have k3 := k2.trans (Keeps.setCell (Pr := fun k => k ≠ w.heap.size + 1) (a := ⟨w.heap.size + 1, 1, none⟩) (fun h => h rfl) (.slice none 0 0))
  have q4 := heap_set_same q3 2 (.int .i64 (bs.length : Int))
  have k4 := k3.trans (Keeps.setCell (Pr := fun k => k ≠ w.heap.size + 1) (a := ⟨w.heap.size + 1, 2, none⟩) (fun h => h rfl) (.int .i64 (bs.length : Int)))
  have q5 := heap_set_same q4 3 (.int .i64 0)
  have k5 := k4.trans (Keeps.setCell (Pr := fun k => k ≠ w.heap.size + 1) (a := ⟨w.heap.size + 1, 3, none⟩) (fun h => h rfl) (.int .i64 0))
  exact bodyPost_ret (results_cell_row rfl _ _ (w.heap.size + 1) 40 _ _ _ rfl q5 Tryd.underlying40 rfl (by kernel_rfl)) rfl
    (call_end k5 HI.out HM.out.1 (HM.out.2.mono HI.out) (res_nil _ _ 0 _ 0) ⟨fun e => absurd e (by decide), fun e => absurd e (by decide), fun e => absurd e (by decide), fun e => absurd e (by decide), fun _ => ⟨rfl, rfl⟩⟩)

set_option maxRecDepth 100000 in
set_option maxHeartbeats 4000000 in
theorem call_inn_3 (Pr : Nat → Prop) (w : World) (gi gm gz off0 : Nat) (v : Value) (pre bs : List UInt8) (off size : Int) (da : Option Addr) (dn dc : Nat) (hin : Inw Pr w) (hI : InnAt Pr w gi gm off0) (h : MemIs Pr w gm gz v (pre ++ bs)) :
    Calls Tryd.prog 24 #[.iface 61 (.pointer (some ⟨gi, 0, none⟩)), .agg #[.int .i64 3, .int .i64 off, .int .i64 size, .slice da dn dc]] w
      (CallPost Pr w gm gz (pre ++ bs) fun r => resOk bs 3 off size dn r) := by
  have H := Lib.hid h
  have HI := Lib.hid hin
  have II := Lib.hid hI
  clear h hin hI
  go_enter Tryd.func24, Tryd.ntmps24
  (repeat (first | go_values | go_skip | go_guarded | go_step | go_upon))
  have hW : Keeps (Old w) w (w2B w 3 off size da dn dc) := (Keeps.alloc (fun _ h => h) _).trans (Keeps.alloc (fun k (h : k < w.heap.size) => by simp; omega) _)
  have hs : (w2B w 3 off size da dn dc).heap.size = w.heap.size + 2 := by simp
  have hb0 : (w2B w 3 off size da dn dc).heap[w.heap.size]? = some (.cells #[.int .i64 3, .int .i64 off, .int .i64 size, .slice da dn dc] 47 (0, 0)) := heap_alloc2_old w _ _
  have hb1 : (w2B w 3 off size da dn dc).heap[w.heap.size + 1]? = some (.cells #[.int .i64 0, .slice none 0 0, .int .i64 0, .int .i64 0] 40 (0, 0)) := heap_alloc2_new w _ _
  change Calls Tryd.prog _ _ (w2B w 3 off size da dn dc) _
  generalize w2B w 3 off size da dn dc = W2 at *
  have h2 := H.out.kept hW (fun k hk _ => hk)
  obtain ⟨c0, c1⟩ := (II.out.keeps (hW.mono HI.out)).cells
  refine (ipunch_any W2 gi gm off0 _ _ c0 c1).mono ?_
  rintro e w3 ⟨rfl, rfl⟩
  have HB1 := Lib.hid (show W2.drew.heap[w.heap.size + 1]? = _ from hb1)
  have HM := Lib.hid (H.out.boxed (hW.trans (Keeps.drew (Old w) W2)))
  clear c0 c1 hb0 hb1 hW hs h2
  generalize W2.drew = w3 at *
  obtain ⟨b0, b1⟩ := cells_at HB1.out
  have x0 := b0 0
  have x1 := b0 1
  have x2 := b0 2
  have x3 := b0 3
  have f0 := b1 0
  have f1 := b1 1
  have f2 := b1 2
  have f3 := b1 3
  simp only [List.getElem?_toArray, List.getElem?_cons_succ, List.getElem?_cons_zero] at x0 x1 x2 x3
  clear b0 b1
  dsimp only
  (repeat (first | go_values | go_skip | go_guarded | go_step | go_upon))
  refine (kind_nil _).mono ?_
  rintro e w4 ⟨rfl, rfl⟩
  dsimp only
  (repeat (first | go_values | go_skip | go_guarded | go_step | go_upon))
  have q0 := heap_set_same HB1.out 3 (.int .i64 0)
  have k0 := (Keeps.setCell (Pr := fun k => k ≠ w.heap.size + 1) (a := ⟨w.heap.size + 1, 3, none⟩) (fun h => h rfl) (.int .i64 0) : Keeps _ w4 _)
  have q1 := heap_set_same q0 0 (.int .i64 0)
  have k1 := k0.trans (Keeps.setCell (Pr := fun k => k ≠ w.heap.size + 1) (a := ⟨w.heap.size + 1, 0, none⟩) (fun h => h rfl) (.int .i64 0))
  have q2 := heap_set_same q1 1 (.slice none 0 0)
  have k2 := k1.trans (Keeps.setCell (Pr := fun k => k ≠ w.heap.size + 1) (a := ⟨w.heap.size + 1, 1, none⟩) (fun h => h rfl) (.slice none 0 0))
  have q3 := heap_set_same q2 2 (.int .i64 0)
  have k3 := k2.trans (Keeps.setCell (Pr := fun k => k ≠ w.heap.size + 1) (a := ⟨w.heap.size + 1, 2, none⟩) (fun h => h rfl) (.int .i64 0))
  have q4 := heap_set_same q3 3 (.int .i64 0)
  have k4 := k3.trans (Keeps.setCell (Pr := fun k => k ≠ w.heap.size + 1) (a := ⟨w.heap.size + 1, 3, none⟩) (fun h => h rfl) (.int .i64 0))
  exact bodyPost_ret (results_cell_row rfl _ _ (w.heap.size + 1) 40 _ _ _ rfl q4 Tryd.underlying40 rfl (by kernel_rfl)) rfl
    (call_end k4 HI.out HM.out.1 (HM.out.2.mono HI.out) (res_nil _ _ 0 0 0) ⟨fun e => absurd e (by decide), fun e => absurd e (by decide), fun e => absurd e (by decide), fun _ => rfl, fun e => absurd e (by decide)⟩)

set_option maxRecDepth 100000 in
set_option maxHeartbeats 4000000 in
theorem call_inn_7 (Pr : Nat → Prop) (w : World) (gi gm gz off0 : Nat) (v : Value) (pre bs : List UInt8) (off size : Int) (da : Option Addr) (dn dc : Nat) (hin : Inw Pr w) (hI : InnAt Pr w gi gm off0) (h : MemIs Pr w gm gz v (pre ++ bs)) :
    Calls Tryd.prog 24 #[.iface 61 (.pointer (some ⟨gi, 0, none⟩)), .agg #[.int .i64 7, .int .i64 off, .int .i64 size, .slice da dn dc]] w
      (CallPost Pr w gm gz (pre ++ bs) fun r => resOk bs 7 off size dn r) := by
  have H := Lib.hid h
  have HI := Lib.hid hin
  have II := Lib.hid hI
  clear h hin hI
  go_enter Tryd.func24, Tryd.ntmps24
  (repeat (first | go_values | go_skip | go_guarded | go_step | go_upon))
  have hW : Keeps (Old w) w (w2B w 7 off size da dn dc) := (Keeps.alloc (fun _ h => h) _).trans (Keeps.alloc (fun k (h : k < w.heap.size) => by simp; omega) _)
  have hs : (w2B w 7 off size da dn dc).heap.size = w.heap.size + 2 := by simp
  have hb0 : (w2B w 7 off size da dn dc).heap[w.heap.size]? = some (.cells #[.int .i64 7, .int .i64 off, .int .i64 size, .slice da dn dc] 47 (0, 0)) := heap_alloc2_old w _ _
  have hb1 : (w2B w 7 off size da dn dc).heap[w.heap.size + 1]? = some (.cells #[.int .i64 0, .slice none 0 0, .int .i64 0, .int .i64 0] 40 (0, 0)) := heap_alloc2_new w _ _
  change Calls Tryd.prog _ _ (w2B w 7 off size da dn dc) _
  generalize w2B w 7 off size da dn dc = W2 at *
  have h2 := H.out.kept hW (fun k hk _ => hk)
  obtain ⟨c0, c1⟩ := (II.out.keeps (hW.mono HI.out)).cells
  refine (irollback_of W2 gi gm (fun x w' => x = .nilIface ∧ w' = W2) c0 ((mrollback_any _ _).mono fun e w' h => ⟨_, h.1, rfl, h.2⟩)).mono ?_
  rintro e w3 ⟨x, rfl, rfl, rfl⟩
  have HB1 := Lib.hid hb1
  have HM := Lib.hid (H.out.boxed hW)
  clear c0 c1 hb0 hb1 hW hs h2
  obtain ⟨b0, b1⟩ := cells_at HB1.out
  have x0 := b0 0
  have x1 := b0 1
  have x2 := b0 2
  have x3 := b0 3
  have f0 := b1 0
  have f1 := b1 1
  have f2 := b1 2
  have f3 := b1 3
  simp only [List.getElem?_toArray, List.getElem?_cons_succ, List.getElem?_cons_zero] at x0 x1 x2 x3
  clear b0 b1
  dsimp only
  (repeat (first | go_values | go_skip | go_guarded | go_step | go_upon))
  refine (kind_nil _).mono ?_
  rintro e w4 ⟨rfl, rfl⟩
  dsimp only
  (repeat (first | go_values | go_skip | go_guarded | go_step | go_upon))
  have q0 := heap_set_same HB1.out 3 (.int .i64 0)
  have k0 := (Keeps.setCell (Pr := fun k => k ≠ w.heap.size + 1) (a := ⟨w.heap.size + 1, 3, none⟩) (fun h => h rfl) (.int .i64 0) : Keeps _ w4 _)
  have q1 := heap_set_same q0 0 (.int .i64 0)
  have k1 := k0.trans (Keeps.setCell (Pr := fun k => k ≠ w.heap.size + 1) (a := ⟨w.heap.size + 1, 0, none⟩) (fun h => h rfl) (.int .i64 0))
  have q2 := heap_set_same q1 1 (.slice none 0 0)
  have k2 := k1.trans (Keeps.setCell (Pr := fun k => k ≠ w.heap.size + 1) (a := ⟨w.heap.size + 1, 1, none⟩) (fun h => h rfl) (.slice none 0 0))
  have q3 := heap_set_same q2 2 (.int .i64 0)
  have k3 := k2.trans (Keeps.setCell (Pr := fun k => k ≠ w.heap.size + 1) (a := ⟨w.heap.size + 1, 2, none⟩) (fun h => h rfl) (.int .i64 0))
  have q4 := heap_set_same q3 3 (.int .i64 0)
  have k4 := k3.trans (Keeps.setCell (Pr := fun k => k ≠ w.heap.size + 1) (a := ⟨w.heap.size + 1, 3, none⟩) (fun h => h rfl) (.int .i64 0))
  exact bodyPost_ret (results_cell_row rfl _ _ (w.heap.size + 1) 40 _ _ _ rfl q4 Tryd.underlying40 rfl (by kernel_rfl)) rfl
    (call_end k4 HI.out HM.out.1 (HM.out.2.mono HI.out) (res_nil _ _ 0 0 0) ⟨fun e => absurd e (by decide), fun e => absurd e (by decide), fun e => absurd e (by decide), fun _ => rfl, fun e => absurd e (by decide)⟩)

set_option maxRecDepth 100000 in
set_option maxHeartbeats 4000000 in
theorem call_inn_5 (Pr : Nat → Prop) (w : World) (gi gm gz off0 : Nat) (v : Value) (pre bs : List UInt8) (off size : Int) (da : Option Addr) (dn dc : Nat) (hin : Inw Pr w) (hI : InnAt Pr w gi gm off0) (h : MemIs Pr w gm gz v (pre ++ bs)) :
    Calls Tryd.prog 24 #[.iface 61 (.pointer (some ⟨gi, 0, none⟩)), .agg #[.int .i64 5, .int .i64 off, .int .i64 size, .slice da dn dc]] w
      (CallPost Pr w gm gz (pre ++ bs) fun r => resOk bs 5 off size dn r) := by
  have H := Lib.hid h
  have HI := Lib.hid hin
  have II := Lib.hid hI
  clear h hin hI
  go_enter Tryd.func24, Tryd.ntmps24
  (repeat (first | go_values | go_skip | go_guarded | go_step | go_upon))
  have hW : Keeps (Old w) w (w2B w 5 off size da dn dc) := (Keeps.alloc (fun _ h => h) _).trans (Keeps.alloc (fun k (h : k < w.heap.size) => by simp; omega) _)
  have hs : (w2B w 5 off size da dn dc).heap.size = w.heap.size + 2 := by simp
  have hb0 : (w2B w 5 off size da dn dc).heap[w.heap.size]? = some (.cells #[.int .i64 5, .int .i64 off, .int .i64 size, .slice da dn dc] 47 (0, 0)) := heap_alloc2_old w _ _
  have hb1 : (w2B w 5 off size da dn dc).heap[w.heap.size + 1]? = some (.cells #[.int .i64 0, .slice none 0 0, .int .i64 0, .int .i64 0] 40 (0, 0)) := heap_alloc2_new w _ _
  change Calls Tryd.prog _ _ (w2B w 5 off size da dn dc) _
  generalize w2B w 5 off size da dn dc = W2 at *
  have h2 := H.out.kept hW (fun k hk _ => hk)
  obtain ⟨c0, c1⟩ := (II.out.keeps (hW.mono HI.out)).cells
  obtain ⟨n, -, -, hm⟩ := h2.fm
  refine (ibegin_of W2 gi gm (fun x w' => x = .nilIface ∧ ∃ n' : Int, (-9223372036854775808 ≤ n' ∧ n' ≤ 9223372036854775807) ∧ w' = W2.setCell ⟨gm, 1, none⟩ (.int .i64 n')) c0 ((mbegin_any W2 gm n _ hm).mono fun e w' h => ⟨_, h.1, rfl, h.2⟩)).mono ?_
  rintro e w3 ⟨x, rfl, rfl, n', hn', rfl⟩
  obtain ⟨hm1, hk1⟩ := (H.out.boxed hW).1.nest n' hn'
  have hgm := H.out.lt
  replace hb1 := (hk1.block _ (show w.heap.size + 1 ≠ gm by omega)).trans hb1
  have hK := Lib.hid ((hW.mono HI.out).trans (hk1.mono fun k hp e => H.out.nm (e ▸ hp)))
  generalize W2.setCell ⟨gm, 1, none⟩ (.int .i64 n') = W3 at *
  have HB1 := Lib.hid hb1
  have HM := Lib.hid hm1
  clear c0 c1 hb0 hb1 hW hs h2 hm hm1 hk1 hgm
  obtain ⟨b0, b1⟩ := cells_at HB1.out
  have x0 := b0 0
  have x1 := b0 1
  have x2 := b0 2
  have x3 := b0 3
  have f0 := b1 0
  have f1 := b1 1
  have f2 := b1 2
  have f3 := b1 3
  simp only [List.getElem?_toArray, List.getElem?_cons_succ, List.getElem?_cons_zero] at x0 x1 x2 x3
  clear b0 b1
  dsimp only
  (repeat (first | go_values | go_skip | go_guarded | go_step | go_upon))
  refine (kind_nil _).mono ?_
  rintro e w4 ⟨rfl, rfl⟩
  dsimp only
  (repeat (first | go_values | go_skip | go_guarded | go_step | go_upon))
  have q0 := heap_set_same HB1.out 3 (.int .i64 0)
  have k0 := (Keeps.setCell (Pr := fun k => k ≠ w.heap.size + 1) (a := ⟨w.heap.size + 1, 3, none⟩) (fun h => h rfl) (.int .i64 0) : Keeps _ w4 _)
  have q1 := heap_set_same q0 0 (.int .i64 0)
  have k1 := k0.trans (Keeps.setCell (Pr := fun k => k ≠ w.heap.size + 1) (a := ⟨w.heap.size + 1, 0, none⟩) (fun h => h rfl) (.int .i64 0))
  have q2 := heap_set_same q1 1 (.slice none 0 0)
  have k2 := k1.trans (Keeps.setCell (Pr := fun k => k ≠ w.heap.size + 1) (a := ⟨w.heap.size + 1, 1, none⟩) (fun h => h rfl) (.slice none 0 0))
  have q3 := heap_set_same q2 2 (.int .i64 0)
  have k3 := k2.trans (Keeps.setCell (Pr := fun k => k ≠ w.heap.size + 1) (a := ⟨w.heap.size + 1, 2, none⟩) (fun h => h rfl) (.int .i64 0))
  have q4 := heap_set_same q3 3 (.int .i64 0)
  have k4 := k3.trans (Keeps.setCell (Pr := fun k => k ≠ w.heap.size + 1) (a := ⟨w.heap.size + 1, 3, none⟩) (fun h => h rfl) (.int .i64 0))
  exact bodyPost_ret (results_cell_row rfl _ _ (w.heap.size + 1) 40 _ _ _ rfl q4 Tryd.underlying40 rfl (by kernel_rfl)) rfl
    (call_end k4 HI.out HM.out hK.out (res_nil _ _ 0 0 0) ⟨fun e => absurd e (by decide), fun e => absurd e (by decide), fun e => absurd e (by decide), fun e => absurd e (by decide), fun e => absurd e (by decide)⟩)

set_option maxRecDepth 100000 in
set_option maxHeartbeats 4000000 in
theorem call_inn_6 (Pr : Nat → Prop) (w : World) (gi gm gz off0 : Nat) (v : Value) (pre bs : List UInt8) (off size : Int) (da : Option Addr) (dn dc : Nat) (hin : Inw Pr w) (hI : InnAt Pr w gi gm off0) (h : MemIs Pr w gm gz v (pre ++ bs)) (va vb : Addr) (hV0 : Vars Pr w va vb) :
    Calls Tryd.prog 24 #[.iface 61 (.pointer (some ⟨gi, 0, none⟩)), .agg #[.int .i64 6, .int .i64 off, .int .i64 size, .slice da dn dc]] w
      (CallPost Pr w gm gz (pre ++ bs) fun r => resOk bs 6 off size dn r) := by
  have H := Lib.hid h
  have HI := Lib.hid hin
  have II := Lib.hid hI
  have V := Lib.hid hV0
  clear h hin hI hV0
  go_enter Tryd.func24, Tryd.ntmps24
  (repeat (first | go_values | go_skip | go_guarded | go_step | go_upon))
  have hW : Keeps (Old w) w (w2B w 6 off size da dn dc) := (Keeps.alloc (fun _ h => h) _).trans (Keeps.alloc (fun k (h : k < w.heap.size) => by simp; omega) _)
  have hs : (w2B w 6 off size da dn dc).heap.size = w.heap.size + 2 := by simp
  have hb0 : (w2B w 6 off size da dn dc).heap[w.heap.size]? = some (.cells #[.int .i64 6, .int .i64 off, .int .i64 size, .slice da dn dc] 47 (0, 0)) := heap_alloc2_old w _ _
  have hb1 : (w2B w 6 off size da dn dc).heap[w.heap.size + 1]? = some (.cells #[.int .i64 0, .slice none 0 0, .int .i64 0, .int .i64 0] 40 (0, 0)) := heap_alloc2_new w _ _
  change Calls Tryd.prog _ _ (w2B w 6 off size da dn dc) _
  generalize w2B w 6 off size da dn dc = W2 at *
  have h2 := H.out.kept hW (fun k hk _ => hk)
  obtain ⟨c0, c1⟩ := (II.out.keeps (hW.mono HI.out)).cells
  obtain ⟨n, -, -, hm⟩ := h2.fm
  by_cases hn : n = 0
  · subst hn
    refine (iend_of W2 gi gm (fun x w' => ∃ o, x = .iface 81 (.pointer (some ⟨W2.heap.size, 0, none⟩)) ∧ w' = W2.alloc o) c0 ((mend_none W2 gm _ hm).mono fun e w' ⟨o, h1, h2⟩ => ⟨_, h1, o, rfl, h2⟩)).mono ?_
    rintro e w3 ⟨x, rfl, o, rfl, rfl⟩
    have hk1 : Keeps (Old W2) W2 (W2.alloc o) := Keeps.alloc (fun _ h => h) o
    have hm1 := (H.out.boxed hW).1.kept hk1 (fun k hk _ => hk)
    replace hb1 := (hk1.block _ (show w.heap.size + 1 < W2.heap.size by omega)).trans hb1
    have hK := Lib.hid ((hW.mono HI.out).trans (hk1.mono fun k hp => Nat.lt_of_lt_of_le (HI.out k hp) hW.size))
    have hV := Lib.hid (V.out.keeps hK.out)
    generalize W2.alloc o = W3 at *
    have HB1 := Lib.hid hb1
    have HM := Lib.hid hm1
    clear c0 c1 hb0 hb1 hW hs h2 hm hm1 hk1
    obtain ⟨b0, b1⟩ := cells_at HB1.out
    have x0 := b0 0
    have x1 := b0 1
    have x2 := b0 2
    have x3 := b0 3
    have f0 := b1 0
    have f1 := b1 1
    have f2 := b1 2
    have f3 := b1 3
    simp only [List.getElem?_toArray, List.getElem?_cons_succ, List.getElem?_cons_zero] at x0 x1 x2 x3
    clear b0 b1
    dsimp only
    (repeat (first | go_values | go_skip | go_guarded | go_step | go_upon))
    refine (kind_perm Pr _ va vb _ hV.out).mono ?_
    rintro e w4 ⟨⟨qe, rfl⟩, rfl⟩
    dsimp only
    (repeat (first | go_values | go_skip | go_guarded | go_step | go_upon))
    have q0 := heap_set_same HB1.out 3 (.int .i64 qe)
    have k0 := (Keeps.setCell (Pr := fun k => k ≠ w.heap.size + 1) (a := ⟨w.heap.size + 1, 3, none⟩) (fun h => h rfl) (.int .i64 qe) : Keeps _ w4 _)
    have q1 := heap_set_same q0 0 (.int .i64 0)
    have k1 := k0.trans (Keeps.setCell (Pr := fun k => k ≠ w.heap.size + 1) (a := ⟨w.heap.size + 1, 0, none⟩) (fun h => h rfl) (.int .i64 0))
    have q2 := heap_set_same q1 1 (.slice none 0 0)
    have k2 := k1.trans (Keeps.setCell (Pr := fun k => k ≠ w.heap.size + 1) (a := ⟨w.heap.size + 1, 1, none⟩) (fun h => h rfl) (.slice none 0 0))
    have q3 := heap_set_same q2 2 (.int .i64 0)
    have k3 := k2.trans (Keeps.setCell (Pr := fun k => k ≠ w.heap.size + 1) (a := ⟨w.heap.size + 1, 2, none⟩) (fun h => h rfl) (.int .i64 0))
    have q4 := heap_set_same q3 3 (.int .i64 qe)
    have k4 := k3.trans (Keeps.setCell (Pr := fun k => k ≠ w.heap.size + 1) (a := ⟨w.heap.size + 1, 3, none⟩) (fun h => h rfl) (.int .i64 qe))
    exact bodyPost_ret (results_cell_row rfl _ _ (w.heap.size + 1) 40 _ _ _ rfl q4 Tryd.underlying40 rfl (by kernel_rfl)) rfl
      (call_end k4 HI.out HM.out hK.out (res_nil _ _ 0 0 qe) ⟨fun e => absurd e (by decide), fun e => absurd e (by decide), fun e => absurd e (by decide), fun e => absurd e (by decide), fun e => absurd e (by decide)⟩)

  · refine (iend_of W2 gi gm (fun x w' => x = .nilIface ∧ ∃ n' : Int, (-9223372036854775808 ≤ n' ∧ n' ≤ 9223372036854775807) ∧ w' = W2.setCell ⟨gm, 1, none⟩ (.int .i64 n')) c0 ((mend_some W2 gm n _ hm hn).mono fun e w' h => ⟨_, h.1, rfl, h.2⟩)).mono ?_
    rintro e w3 ⟨x, rfl, rfl, n', hn', rfl⟩
    obtain ⟨hm1, hk1⟩ := (H.out.boxed hW).1.nest n' hn'
    have hgm := H.out.lt
    replace hb1 := (hk1.block _ (show w.heap.size + 1 ≠ gm by omega)).trans hb1
    have hK := Lib.hid ((hW.mono HI.out).trans (hk1.mono fun k hp e => H.out.nm (e ▸ hp)))
    generalize W2.setCell ⟨gm, 1, none⟩ (.int .i64 n') = W3 at *
    have HB1 := Lib.hid hb1
    have HM := Lib.hid hm1
    clear c0 c1 hb0 hb1 hW hs h2 hm hm1 hk1 hgm hn
    obtain ⟨b0, b1⟩ := cells_at HB1.out
    have x0 := b0 0
    have x1 := b0 1
    have x2 := b0 2
    have x3 := b0 3
    have f0 := b1 0
    have f1 := b1 1
    have f2 := b1 2
    have f3 := b1 3
    simp only [List.getElem?_toArray, List.getElem?_cons_succ, List.getElem?_cons_zero] at x0 x1 x2 x3
    clear b0 b1
    dsimp only
    (repeat (first | go_values | go_skip | go_guarded | go_step | go_upon))
    refine (kind_nil _).mono ?_
    rintro e w4 ⟨rfl, rfl⟩
    dsimp only
    (repeat (first | go_values | go_skip | go_guarded | go_step | go_upon))
    have q0 := heap_set_same HB1.out 3 (.int .i64 0)
    have k0 := (Keeps.setCell (Pr := fun k => k ≠ w.heap.size + 1) (a := ⟨w.heap.size + 1, 3, none⟩) (fun h => h rfl) (.int .i64 0) : Keeps _ w4 _)
    have q1 := heap_set_same q0 0 (.int .i64 0)
    have k1 := k0.trans (Keeps.setCell (Pr := fun k => k ≠ w.heap.size + 1) (a := ⟨w.heap.size + 1, 0, none⟩) (fun h => h rfl) (.int .i64 0))
    have q2 := heap_set_same q1 1 (.slice none 0 0)
    have k2 := k1.trans (Keeps.setCell (Pr := fun k => k ≠ w.heap.size + 1) (a := ⟨w.heap.size + 1, 1, none⟩) (fun h => h rfl) (.slice none 0 0))
    have q3 := heap_set_same q2 2 (.int .i64 0)
    have k3 := k2.trans (Keeps.setCell (Pr := fun k => k ≠ w.heap.size + 1) (a := ⟨w.heap.size + 1, 2, none⟩) (fun h => h rfl) (.int .i64 0))
    have q4 := heap_set_same q3 3 (.int .i64 0)
    have k4 := k3.trans (Keeps.setCell (Pr := fun k => k ≠ w.heap.size + 1) (a := ⟨w.heap.size + 1, 3, none⟩) (fun h => h rfl) (.int .i64 0))
    exact bodyPost_ret (results_cell_row rfl _ _ (w.heap.size + 1) 40 _ _ _ rfl q4 Tryd.underlying40 rfl (by kernel_rfl)) rfl
      (call_end k4 HI.out HM.out hK.out (res_nil _ _ 0 0 0) ⟨fun e => absurd e (by decide), fun e => absurd e (by decide), fun e => absurd e (by decide), fun e => absurd e (by decide), fun e => absurd e (by decide)⟩)

set_option maxRecDepth 100000 in
set_option maxHeartbeats 4000000 in
theorem call_inn_2 (Pr : Nat → Prop) (w : World) (gi gm gz off0 : Nat) (v : Value) (pre bs : List UInt8) (off : Int) (n : Nat) (da : Option Addr) (dn dc : Nat) (hn : n ≤ 1000000) (hp : pre.length = off0) (ho : off0 ≤ 1000000) (hin : Inw Pr w) (hI : InnAt Pr w gi gm off0) (h : MemIs Pr w gm gz v (pre ++ bs)) :
    Calls Tryd.prog 24 #[.iface 61 (.pointer (some ⟨gi, 0, none⟩)), .agg #[.int .i64 2, .int .i64 off, .int .i64 (n : Int), .slice da dn dc]] w
      (CallPost Pr w gm gz (pre ++ (resB bs n)) fun r => resOk bs 2 off n dn r) := by
  have H := Lib.hid h
  have HI := Lib.hid hin
  have II := Lib.hid hI
  clear h hin hI
  go_enter Tryd.func24, Tryd.ntmps24
  (repeat (first | go_values | go_skip | go_guarded | go_step | go_upon))
  have hW : Keeps (Old w) w (w2B w 2 off n da dn dc) := (Keeps.alloc (fun _ h => h) _).trans (Keeps.alloc (fun k (h : k < w.heap.size) => by simp; omega) _)
  have hs : (w2B w 2 off n da dn dc).heap.size = w.heap.size + 2 := by simp
  have hb0 : (w2B w 2 off n da dn dc).heap[w.heap.size]? = some (.cells #[.int .i64 2, .int .i64 off, .int .i64 (n : Int), .slice da dn dc] 47 (0, 0)) := heap_alloc2_old w _ _
  have hb1 : (w2B w 2 off n da dn dc).heap[w.heap.size + 1]? = some (.cells #[.int .i64 0, .slice none 0 0, .int .i64 0, .int .i64 0] 40 (0, 0)) := heap_alloc2_new w _ _
  change Calls Tryd.prog _ _ (w2B w 2 off n da dn dc) _
  generalize w2B w 2 off n da dn dc = W2 at *
  have h2 := H.out.kept hW (fun k hk _ => hk)
  obtain ⟨c0, c1⟩ := (II.out.keeps (hW.mono HI.out)).cells
  have hbx := (H.out.boxed (hW.trans (Keeps.drew (Old w) W2))).1
  have hgm := H.out.lt
  have hinB : Inw (also (fun k => Pr k ∨ k = w.heap.size ∨ k = w.heap.size + 1) gm) W2.drew := fun k hk => by
    show k < W2.heap.size
    rcases hk with (h | h | h) | h
    · have := HI.out k h; omega
    · omega
    · omega
    · omega
  have hT := mtrunc_of W2.drew gm gz _ _ (show W2.drew.cell? ⟨gm, 0, none⟩ = _ from h2.c0) (ztrunc_any _ W2.drew gz v (pre ++ bs) (n + off0) hinB hbx.zis2 (by omega))
  rw [show (((n + off0 : Nat) : Int)) = (n : Int) + (off0 : Int) from rfl, resB_pre _ _ _ _ hp] at hT
  refine (itrunc_of W2 gi gm off0 n _ c0 c1 ho (by omega) hT).mono ?_
  rintro e w3 ⟨rfl, v', hz, hk1⟩
  replace hk1 := (Keeps.drew _ W2).trans hk1
  have hm1 := hbx.of_zis (hz.mono fun k h => .inl h) (hk1.block gm (.inr rfl))
  have hb1 := (hk1.block (w.heap.size + 1) (.inl (.inr (.inr rfl)))).trans hb1
  have hK := Lib.hid ((hW.mono HI.out).trans (hk1.mono fun k hp => .inl (.inl hp)))
  have HB1 := Lib.hid hb1
  have HM := Lib.hid hm1
  clear c0 c1 hb0 hb1 hW hs h2 hbx hz hm1 hk1 hgm hinB hT
  obtain ⟨b0, b1⟩ := cells_at HB1.out
  have x0 := b0 0
  have x1 := b0 1
  have x2 := b0 2
  have x3 := b0 3
  have f0 := b1 0
  have f1 := b1 1
  have f2 := b1 2
  have f3 := b1 3
  simp only [List.getElem?_toArray, List.getElem?_cons_succ, List.getElem?_cons_zero] at x0 x1 x2 x3
  clear b0 b1
  dsimp only
  (repeat (first | go_values | go_skip | go_guarded | go_step | go_upon))
  refine (kind_nil _).mono ?_
  rintro e w4 ⟨rfl, rfl⟩
  dsimp only
  (repeat (first | go_values | go_skip | go_guarded | go_step | go_upon))
  have q0 := heap_set_same HB1.out 3 (.int .i64 0)
  have k0 := (Keeps.setCell (Pr := fun k => k ≠ w.heap.size + 1) (a := ⟨w.heap.size + 1, 3, none⟩) (fun h => h rfl) (.int .i64 0) : Keeps _ w4 _)
  have q1 := heap_set_same q0 0 (.int .i64 0)
  have k1 := k0.trans (Keeps.setCell (Pr := fun k => k ≠ w.heap.size + 1) (a := ⟨w.heap.size + 1, 0, none⟩) (fun h => h rfl) (.int .i64 0))
  have q2 := heap_set_same q1 1 (.slice none 0 0)
  have k2 := k1.trans (Keeps.setCell (Pr := fun k => k ≠ w.heap.size + 1) (a := ⟨w.heap.size + 1, 1, none⟩) (fun h => h rfl) (.slice none 0 0))
  have q3 := heap_set_same q2 2 (.int .i64 0)
  have k3 := k2.trans (Keeps.setCell (Pr := fun k => k ≠ w.heap.size + 1) (a := ⟨w.heap.size + 1, 2, none⟩) (fun h => h rfl) (.int .i64 0))
  have q4 := heap_set_same q3 3 (.int .i64 0)
  have k4 := k3.trans (Keeps.setCell (Pr := fun k => k ≠ w.heap.size + 1) (a := ⟨w.heap.size + 1, 3, none⟩) (fun h => h rfl) (.int .i64 0))
  exact bodyPost_ret (results_cell_row rfl _ _ (w.heap.size + 1) 40 _ _ _ rfl q4 Tryd.underlying40 rfl (by kernel_rfl)) rfl
    (call_end k4 HI.out HM.out hK.out (res_nil _ _ 0 0 0) ⟨fun e => absurd e (by decide), fun e => absurd e (by decide), fun _ => rfl, fun e => absurd e (by decide), fun e => absurd e (by decide)⟩)


end Go.Proofs.YtkkliejgmgmebaaDoor
