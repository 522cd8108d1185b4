/-
  impl.call over an InnerFiler: ReadAt, WriteAt; all kinds.
-/
import Derived.Test.YtkkliejgmgmebaaDoorN2
namespace Go.Proofs.YtkkliejgmgmebaaDoor
open Go.RowKit

set_option maxRecDepth 100000 in
set_option maxHeartbeats 4000000 in
theorem call_inn_1 (Pr : Nat → Prop) (w : World) (gi gm gz off0 : Nat) (v : Value) (pre bs : List UInt8) (off n : Nat) (da : Option Addr) (dn dc : Nat) (hp : pre.length = off0) (ho : off0 ≤ 1000000) (ho1 : off ≤ 1000000) (hin : Inw Pr w) (hI : InnAt Pr w gi gm off0) (h : MemIs Pr w gm gz v (pre ++ bs)) (va vb : Addr) (hV0 : Vars Pr w va vb) (hn0 : 0 < n) (hn : n ≤ 65536) :
    Calls Tryd.prog 24 #[.iface 61 (.pointer (some ⟨gi, 0, none⟩)), .agg #[.int .i64 1, .int .i64 (off : Int), .int .i64 (n : Int), .slice da dn dc]] w
      (CallPost Pr w gm gz (pre ++ bs) fun r => resOk bs 1 off n dn r) := by
  obtain ⟨i0, hi, hz0, hz1, hz2⟩ := info_parts infoU8
  have hmk := fun W => make_run (P := Tryd.prog) W 22 5 i0 (.int .u8 0) Tryd.underlying22 hi hz0 hz1 hz2 n (by omega)
  have H := Lib.hid h
  have HI := Lib.hid hin
  have V := Lib.hid hV0
  have II := Lib.hid hI
  clear h hin hV0 hI
  go_enter Tryd.func24, Tryd.ntmps24
  (repeat (first | go_values | go_skip | go_guarded | go_step | go_upon))
  have hW : Keeps (Old w) w (w2B w 1 off n da dn dc) := (Keeps.alloc (fun _ h => h) _).trans (Keeps.alloc (fun k (h : k < w.heap.size) => by simp; omega) _)
  have hs : (w2B w 1 off n da dn dc).heap.size = w.heap.size + 2 := by simp
  have hb1 : (w2B w 1 off n da dn dc).heap[w.heap.size + 1]? = some (.cells #[.int .i64 0, .slice none 0 0, .int .i64 0, .int .i64 0] 40 (0, 0)) := heap_alloc2_new w _ _
  change Calls Tryd.prog _ _ ((w2B w 1 off n da dn dc).alloc (.cells (madeCells #[.int .u8 0] n) 5)) _
  generalize w2B w 1 off n da dn dc = W2 at *
  have hrow := Row.make Pr W2 (HI.out.mono hW.size) 5 (.int .u8 0) n (by omega) (B := w.heap.size + 1 + 1) (by omega)
  have hW3 : Keeps (Old w) w (W2.alloc (.cells (madeCells #[.int .u8 0] n) 5)) := hW.trans (Keeps.alloc (fun k (h : k < w.heap.size) => by omega) _)
  have hs3 : (W2.alloc (.cells (madeCells #[.int .u8 0] n) 5)).heap.size = w.heap.size + 3 := by simp; omega
  replace hb1 := (heap_alloc_lt W2 (.cells (madeCells #[.int .u8 0] n) 5) (show w.heap.size + 1 < W2.heap.size by omega)).trans hb1
  generalize W2.alloc (.cells (madeCells #[.int .u8 0] n) 5) = W3 at *
  have h3 := H.out.kept (hW3.trans (Keeps.drew (Old w) W3)) (fun k hk _ => hk)
  obtain ⟨c0, c1⟩ := (II.out.keeps (hW3.mono HI.out)).cells
  have hR := mread_of W3.drew gm gz _ _ _ h3.c0 (zread_any Pr Pr W3.drew gz (w.heap.size + 1 + 1) v (pre ++ bs) _ va vb n n (off0 + off) (V.out.keeps ((hW3.trans (Keeps.drew (Old w) W3)).mono HI.out)) h3.zis (hrow.kept (w' := W3.drew) fun _ _ => rfl) (fun h => by have := HI.out _ h; omega) hn0 (by omega))
  refine (iread_of W3 gi gm off0 off _ _ c0 c1 ho ho1 hR).mono ?_
  rintro e w4 ⟨x, y, rfl, d, q, w5, rfl, rfl, hr5, hk5, hd, hy⟩
  rw [drop_pre _ _ _ _ hp] at hr5
  replace hk5 := (Keeps.drew (But W3 (w.heap.size + 1 + 1)) W3).trans hk5
  replace hd : d = min (bs.length - off) n := by rw [hd, List.length_append]; congr 1; omega
  have hk5' : Keeps (Old w) w w5 := hW3.trans (hk5.mono fun k (h : k < w.heap.size) => ⟨by omega, by omega⟩)
  replace hb1 := (hk5.block (w.heap.size + 1) ⟨by omega, by omega⟩).trans hb1
  have hs5 : w.heap.size + 3 ≤ w5.heap.size := by have := hk5.size; omega
  have hdn : d ≤ n := by omega
  have x9 : (d : Int) ≤ n := by omega
  have x8 : (0 : Int) ≤ d := by omega
  have hdl : ((bs.drop off).take d).length = d := by rw [List.length_take, List.length_drop]; omega
  have hdt : (bs.drop off).take d = (bs.drop off).take n := by
    rw [hd]
    by_cases hc : bs.length - off < n
    · rw [List.take_of_length_le (by rw [List.length_drop]; omega), List.take_of_length_le (by rw [List.length_drop]; omega)]
    · rw [Nat.min_eq_right (by omega)]
  have HB1 := Lib.hid (show (World.drewN w5 q).heap[w.heap.size + 1]? = _ from hb1)
  have V5 := Lib.hid (V.out.keeps ((hk5'.trans (below_keeps (below_drewN w5 q _) |>.mono fun k (h : k < w.heap.size) => Nat.lt_of_lt_of_le h hk5'.size)).mono HI.out))
  have fin1 : ∀ (W' : World) (err : Int), Keeps (fun k => k ≠ w.heap.size + 1) (World.drewN w5 q) W' → (err = if (d : Int) < n then 1 else 0) →
      CallPost Pr w gm gz (pre ++ bs) (fun r => resOk bs 1 off n dn r) (.returned (.agg #[.int .i64 (d : Int), .slice (some ⟨w.heap.size + 1 + 1, 0, none⟩) d n, .int .i64 0, .int .i64 err])) W' := by
    intro W' err hkw herr
    have hkO : Keeps (Old w) w W' := (hk5'.trans (below_keeps (below_drewN w5 q _) |>.mono fun k (h : k < w.heap.size) => Nat.lt_of_lt_of_le h hk5'.size)).trans (hkw.mono fun k (h : k < w.heap.size) => by omega)
    have hrd := rd_buffer hr5 hdl hdn (by simp)
    have hrd2 : Rd (fun k => k = w.heap.size + 1 + 1) W' (some ⟨w.heap.size + 1 + 1, 0, none⟩) d ((bs.drop off).take d) := (hrd.keeps (Keeps.of_below (below_drewN w5 q (w.heap.size + 3)) (fun k e => by rw [e]; omega))).keeps (hkw.mono fun k e => by rw [e]; omega)
    refine call_end1 (r := ⟨d, (bs.drop off).take d, 0, err⟩) (gb := w.heap.size + 1 + 1) hkO HI.out H.out (by omega) (Nat.lt_of_lt_of_le (show w.heap.size + 1 + 1 < w5.heap.size by omega) hkw.size) ⟨some ⟨w.heap.size + 1 + 1, 0, none⟩, n, by rw [hdl], by rw [hdl]; exact hdn, by rw [hdl]; exact hrd2⟩ ?_
    exact ⟨fun e => absurd e (by decide), fun _ => ⟨hdt, by rw [hdl], by rw [hdl]; exact herr⟩, fun e => absurd e (by decide), fun e => absurd e (by decide), fun e => absurd e (by decide)⟩
  have FIN := Lib.hid fin1
  clear c0 c1 hR fin1 hb1 hs hs3 hW hW3 hrow h3 hr5 hk5 hk5' hs5 hd hdl hdt
  obtain ⟨b0, b1⟩ := cells_at HB1.out
  have x0 := b0 0
  have x1 := b0 1
  have x2 := b0 2
  have x3 := b0 3
  have f0 := b1 0
  have f1 := b1 1
  have f2 := b1 2
  have f3 := b1 3
  simp only [List.getElem?_toArray, List.getElem?_cons_succ, List.getElem?_cons_zero] at x0 x1 x2 x3
  clear b0 b1
  dsimp only
  rcases hy with ⟨hy1, rfl⟩ | ⟨hy1, rfl⟩
  · skip
    (repeat (first | go_values | go_skip | go_guarded | go_step | go_upon))
    have hn1 : ¬ Pr (w.heap.size + 1) := fun h => by have := HI.out _ h; omega
    have HV7 := Lib.hid (V5.out.keeps ((Keeps.setCell (w := World.drewN w5 q) (a := ⟨w.heap.size + 1, 0, none⟩) hn1 (.int .i64 (d : Int))).trans (Keeps.setCell (a := ⟨w.heap.size + 1, 1, none⟩) hn1 (.slice (some ⟨w.heap.size + 1 + 1, 0, none⟩) d n))))
    clear hn1
    refine (kind_eof Pr _ va vb HV7.out).mono ?_
    rintro e w6 ⟨rfl, rfl⟩
    dsimp only
    (repeat (first | go_values | go_skip | go_guarded | go_step | go_upon))
    have q0 := heap_set_same HB1.out 0 (.int .i64 (d : Int))
    have k0 := (Keeps.setCell (Pr := fun k => k ≠ w.heap.size + 1) (a := ⟨w.heap.size + 1, 0, none⟩) (fun h => h rfl) (.int .i64 (d : Int)) : Keeps _ (World.drewN w5 q) _)
    have q1 := heap_set_same q0 1 (.slice (some ⟨w.heap.size + 1 + 1, 0, none⟩) d n)
    have k1 := k0.trans (Keeps.setCell (Pr := fun k => k ≠ w.heap.size + 1) (a := ⟨w.heap.size + 1, 1, none⟩) (fun h => h rfl) (.slice (some ⟨w.heap.size + 1 + 1, 0, none⟩) d n))
    have q2 := heap_set_same q1 3 (.int .i64 1)
    have k2 := k1.trans (Keeps.setCell (Pr := fun k => k ≠ w.heap.size + 1) (a := ⟨w.heap.size + 1, 3, none⟩) (fun h => h rfl) (.int .i64 1))
    have q3 := heap_set_same q2 0 (.int .i64 (d : Int))
    have k3 := k2.trans (Keeps.setCell (Pr := fun k => k ≠ w.heap.size + 1) (a := ⟨w.heap.size + 1, 0, none⟩) (fun h => h rfl) (.int .i64 (d : Int)))
    have q4 := heap_set_same q3 1 (.slice (some ⟨w.heap.size + 1 + 1, 0, none⟩) d n)
    have k4 := k3.trans (Keeps.setCell (Pr := fun k => k ≠ w.heap.size + 1) (a := ⟨w.heap.size + 1, 1, none⟩) (fun h => h rfl) (.slice (some ⟨w.heap.size + 1 + 1, 0, none⟩) d n))
    have q5 := heap_set_same q4 2 (.int .i64 0)
    have k5 := k4.trans (Keeps.setCell (Pr := fun k => k ≠ w.heap.size + 1) (a := ⟨w.heap.size + 1, 2, none⟩) (fun h => h rfl) (.int .i64 0))
    have q6 := heap_set_same q5 3 (.int .i64 1)
    have k6 := k5.trans (Keeps.setCell (Pr := fun k => k ≠ w.heap.size + 1) (a := ⟨w.heap.size + 1, 3, none⟩) (fun h => h rfl) (.int .i64 1))
    exact bodyPost_ret (results_cell_row rfl _ _ (w.heap.size + 1) 40 _ _ _ rfl q6 Tryd.underlying40 rfl (by kernel_rfl)) rfl
      (FIN.out _ 1 k6 (if_pos (show (d : Int) < n by omega)).symm)
  · have HY := Lib.hid hy1
    clear hy1
    (repeat (first | go_values | go_skip | go_guarded | go_step | go_upon))
    refine (kind_nil _).mono ?_
    rintro e w6 ⟨rfl, rfl⟩
    dsimp only
    (repeat (first | go_values | go_skip | go_guarded | go_step | go_upon))
    have q0 := heap_set_same HB1.out 0 (.int .i64 (d : Int))
    have k0 := (Keeps.setCell (Pr := fun k => k ≠ w.heap.size + 1) (a := ⟨w.heap.size + 1, 0, none⟩) (fun h => h rfl) (.int .i64 (d : Int)) : Keeps _ (World.drewN w5 q) _)
    have q1 := heap_set_same q0 1 (.slice (some ⟨w.heap.size + 1 + 1, 0, none⟩) d n)
    have k1 := k0.trans (Keeps.setCell (Pr := fun k => k ≠ w.heap.size + 1) (a := ⟨w.heap.size + 1, 1, none⟩) (fun h => h rfl) (.slice (some ⟨w.heap.size + 1 + 1, 0, none⟩) d n))
    have q2 := heap_set_same q1 3 (.int .i64 0)
    have k2 := k1.trans (Keeps.setCell (Pr := fun k => k ≠ w.heap.size + 1) (a := ⟨w.heap.size + 1, 3, none⟩) (fun h => h rfl) (.int .i64 0))
    have q3 := heap_set_same q2 0 (.int .i64 (d : Int))
    have k3 := k2.trans (Keeps.setCell (Pr := fun k => k ≠ w.heap.size + 1) (a := ⟨w.heap.size + 1, 0, none⟩) (fun h => h rfl) (.int .i64 (d : Int)))
    have q4 := heap_set_same q3 1 (.slice (some ⟨w.heap.size + 1 + 1, 0, none⟩) d n)
    have k4 := k3.trans (Keeps.setCell (Pr := fun k => k ≠ w.heap.size + 1) (a := ⟨w.heap.size + 1, 1, none⟩) (fun h => h rfl) (.slice (some ⟨w.heap.size + 1 + 1, 0, none⟩) d n))
    have q5 := heap_set_same q4 2 (.int .i64 0)
    have k5 := k4.trans (Keeps.setCell (Pr := fun k => k ≠ w.heap.size + 1) (a := ⟨w.heap.size + 1, 2, none⟩) (fun h => h rfl) (.int .i64 0))
    have q6 := heap_set_same q5 3 (.int .i64 0)
    have k6 := k5.trans (Keeps.setCell (Pr := fun k => k ≠ w.heap.size + 1) (a := ⟨w.heap.size + 1, 3, none⟩) (fun h => h rfl) (.int .i64 0))
    exact bodyPost_ret (results_cell_row rfl _ _ (w.heap.size + 1) 40 _ _ _ rfl q6 Tryd.underlying40 rfl (by kernel_rfl)) rfl
      (FIN.out _ 0 k6 (if_neg (show ¬ (d : Int) < n by have := HY.out; omega)).symm)

/-- the write behind the clone -/
theorem iwrite_after (Pr : Nat → Prop) (w W2 w3 : World) (gi gm gz off0 : Nat) (v : Value) (pre bs xs : List UInt8) (ac : Option Addr) (dn cc off : Nat) (hp : pre.length = off0) (ho2 : off0 ≤ 500000) (hin : Inw Pr w) (hI : InnAt Pr w gi gm off0) (h : MemIs Pr w gm gz v (pre ++ bs)) (hW : Keeps (Old w) w W2) (hs : W2.heap.size = w.heap.size + 2)
    (hrow : Row (Old W2) w3 5 1 (.slice ac dn cc) dn (u8s xs)) (hown : ∀ k, (Value.slice ac dn cc).ownBlock = some k → W2.heap.size ≤ k) (hkC : Keeps (Old W2) W2 w3) (hn : 0 < dn) (hn2 : dn ≤ 1000000) (ho : off ≤ 500000) (hl : (pre ++ bs).length ≤ 10000000) :
    Calls Tryd.prog 69 #[.pointer (some ⟨gi, 0, none⟩), .slice ac dn cc, .int .i64 (off : Int)] w3 fun e w' => ∃ x y, e = .returned (.tuple #[x, y]) ∧
      (x = .int .i64 (dn : Int) ∧ y = .nilIface ∧ ∃ v', MemIs (fun k => Pr k ∨ k = w.heap.size ∨ k = w.heap.size + 1) w' gm gz v' (pre ++ wrB bs off xs) ∧ Keeps Pr w w' ∧ w'.heap[w.heap.size + 1]? = W2.heap[w.heap.size + 1]?) := by
  obtain ⟨c0, c1⟩ := (hI.keeps ((hW.mono hin).trans (hkC.mono fun k hk => Nat.lt_of_lt_of_le (hin k hk) hW.size))).cells
  have h1 := write_after Pr w W2 w3.drew gm gz v (pre ++ bs) xs ac dn cc (off0 + off) hin h hW hs (hrow.kept (w' := w3.drew) fun _ _ => rfl) hown (hkC.trans (Keeps.drew _ w3)) hn hn2 (by omega) hl
  rw [wrB_pre _ _ _ _ _ hp] at h1
  exact iwrite_of w3 gi gm off0 off _ _ c0 c1 (by omega) (by omega) h1

theorem nil_ahead_iw2 (a : Addr) (w : World) : (nilAhead 226 61 (.pointer (some a)) "WriteAt").run Tryd.prog w = .ok (some false) w := by kernel_rfl
theorem method_iw2 (a : Addr) (w : World) : (method 226 61 (.pointer (some a)) "WriteAt").run Tryd.prog w = .ok (69, .pointer (some a)) w := by kernel_rfl

set_option maxRecDepth 100000 in
set_option maxHeartbeats 4000000 in
theorem call_inn_0 (Pr : Nat → Prop) (w : World) (gi gm gz off0 : Nat) (v : Value) (pre bs xs : List UInt8) (off : Nat) (size : Int) (da : Option Addr) (dn dc : Nat) (hp : pre.length = off0) (hin : Inw Pr w) (hI : InnAt Pr w gi gm off0) (h : MemIs Pr w gm gz v (pre ++ bs)) (hr : Rd Pr w da dn xs) (hn : 0 < dn) (hn2 : dn ≤ 1000000) (ho : off ≤ 500000) (ho2 : off0 ≤ 500000) (hl : (pre ++ bs).length ≤ 10000000) :
    Calls Tryd.prog 24 #[.iface 61 (.pointer (some ⟨gi, 0, none⟩)), .agg #[.int .i64 0, .int .i64 (off : Int), .int .i64 size, .slice da dn dc]] w
      (CallPost Pr w gm gz (pre ++ wrB bs off xs) fun r => resOk bs 0 off size dn r) := by
  have H := Lib.hid h
  have HI := Lib.hid hin
  have HR := Lib.hid hr
  have II := Lib.hid hI
  clear h hin hr hI
  go_enter Tryd.func24, Tryd.ntmps24
  (repeat (first | go_values | go_skip | go_guarded | go_step | go_upon))
  have hW : Keeps (Old w) w (w2B w 0 off size da dn dc) := (Keeps.alloc (fun _ h => h) _).trans (Keeps.alloc (fun k (h : k < w.heap.size) => by simp; omega) _)
  have hs : (w2B w 0 off size da dn dc).heap.size = w.heap.size + 2 := by simp
  have hb0 : (w2B w 0 off size da dn dc).heap[w.heap.size]? = some (.cells #[.int .i64 0, .int .i64 (off : Int), .int .i64 size, .slice da dn dc] 47 (0, 0)) := heap_alloc2_old w _ _
  have hb1 : (w2B w 0 off size da dn dc).heap[w.heap.size + 1]? = some (.cells #[.int .i64 0, .slice none 0 0, .int .i64 0, .int .i64 0] 40 (0, 0)) := heap_alloc2_new w _ _
  change Code.wp Tryd.prog _ _ _ (w2B w 0 off size da dn dc)
  generalize w2B w 0 off size da dn dc = W2 at *
  obtain ⟨y0, -⟩ := cells_at hb0
  have y1 := y0 1
  have y3 := y0 3
  simp only [List.getElem?_toArray, List.getElem?_cons_succ, List.getElem?_cons_zero] at y1 y3
  clear y0
  -- the clone and the write, whenever they come
  have CL := Lib.hid (fun (W : World) (hk : Keeps (Old w) w W) => clone_any (Old W) W da dn dc xs (fun _ h => h) ((HR.out.keeps (hk.mono HI.out)).mono fun k hp => Nat.lt_of_lt_of_le (HI.out k hp) hk.size) (by omega))
  have HW := Lib.hid hW
  have HS := Lib.hid hs
  have HB0 := Lib.hid hb0
  have HB1 := Lib.hid hb1
  clear hW hs hb0 hb1
  have na := nil_ahead_iw2 ⟨gi, 0, none⟩
  have me := method_iw2 ⟨gi, 0, none⟩
  refine wp_blind ?_
  go_region_with (first
    | (go_at_call 19; refine (CL.out _ (HW.out.trans (Keeps.drew _ _))).mono ?_; rintro e w3 ⟨vC, rfl, hrow, -, hown, hkC⟩; obtain ⟨ac, cc, rfl, -⟩ := hrow.slice; have z1 := (hkC.cell (a := ⟨w.heap.size, 1, none⟩) (show w.heap.size < W2.heap.size by have := HS.out; omega)).trans y1; have WA := Lib.hid (iwrite_after Pr w W2 w3 gi gm gz off0 v pre bs xs ac dn cc off hp ho2 HI.out II.out H.out HW.out HS.out hrow hown ((Keeps.drew (Old W2) W2).trans hkC) hn hn2 ho hl); clear hrow hown hkC)
    | (go_at_call 69; refine WA.out.mono ?_; rintro e w4 ⟨_, _, rfl, rfl, rfl, v', hm, hk, hbb⟩; obtain ⟨b0, b1⟩ := cells_at (hbb.trans HB1.out); have x0 := b0 0; have x1 := b0 1; have x2 := b0 2; have x3 := b0 3; have f0 := b1 0; have f1 := b1 1; have f2 := b1 2; have f3 := b1 3; simp only [List.getElem?_toArray, List.getElem?_cons_succ, List.getElem?_cons_zero] at x0 x1 x2 x3; have HM4 := Lib.hid hm; have HK4 := Lib.hid hk; have HBB := Lib.hid (hbb.trans HB1.out); clear hm hk hbb b0 b1))
  all_goals
    simp only [onlyNormal]
    (repeat (first | go_values | go_skip | go_guarded | go_step | go_upon))
    refine (kind_nil _).mono ?_
    rintro e w5 ⟨rfl, rfl⟩
    dsimp only
    (repeat (first | go_values | go_skip | go_guarded | go_step | go_upon))
    have q0 := heap_set_same HBB.out 0 (.int .i64 (dn : Int))
    have k0 := (Keeps.setCell (Pr := fun k => k ≠ w.heap.size + 1) (a := ⟨w.heap.size + 1, 0, none⟩) (fun h => h rfl) (.int .i64 (dn : Int)) : Keeps _ w4 _)
    have q1 := heap_set_same q0 3 (.int .i64 0)
    have k1 := k0.trans (Keeps.setCell (Pr := fun k => k ≠ w.heap.size + 1) (a := ⟨w.heap.size + 1, 3, none⟩) (fun h => h rfl) (.int .i64 0))
    have q2 := heap_set_same q1 0 (.int .i64 (dn : Int))
    have k2 := k1.trans (Keeps.setCell (Pr := fun k => k ≠ w.heap.size + 1) (a := ⟨w.heap.size + 1, 0, none⟩) (fun h => h rfl) (.int .i64 (dn : Int)))
    have q3 := heap_set_same q2 1 (.slice none 0 0)
    have k3 := k2.trans (Keeps.setCell (Pr := fun k => k ≠ w.heap.size + 1) (a := ⟨w.heap.size + 1, 1, none⟩) (fun h => h rfl) (.slice none 0 0))
    have q4 := heap_set_same q3 2 (.int .i64 0)
    have k4 := k3.trans (Keeps.setCell (Pr := fun k => k ≠ w.heap.size + 1) (a := ⟨w.heap.size + 1, 2, none⟩) (fun h => h rfl) (.int .i64 0))
    have q5 := heap_set_same q4 3 (.int .i64 0)
    have k5 := k4.trans (Keeps.setCell (Pr := fun k => k ≠ w.heap.size + 1) (a := ⟨w.heap.size + 1, 3, none⟩) (fun h => h rfl) (.int .i64 0))
    exact bodyPost_ret (results_cell_row rfl _ _ (w.heap.size + 1) 40 _ _ _ rfl q5 Tryd.underlying40 rfl (by kernel_rfl)) rfl
      (call_end k5 HI.out HM4.out HK4.out (res_nil _ _ dn 0 0) ⟨fun _ => ⟨rfl, rfl⟩, fun e => absurd e (by decide), fun e => absurd e (by decide), fun e => absurd e (by decide), fun e => absurd e (by decide)⟩)

/-- one call -/
theorem call_inn (Pr : Nat → Prop) (w : World) (gi gm gz off0 : Nat) (v : Value) (pre bs xs : List UInt8) (kind off size : Int) (da : Option Addr) (dn dc : Nat) (hp : pre.length = off0) (ho2 : off0 ≤ 500000) (hin : Inw Pr w) (hI : InnAt Pr w gi gm off0) (h : MemIs Pr w gm gz v (pre ++ bs)) (hr : Rd Pr w da dn xs) (va vb : Addr) (hV : Vars Pr w va vb) (len : Nat) (hfit : fitsB len kind off size dn = true) (hl : bs.length ≤ 1000000) :
    Calls Tryd.prog 24 #[.iface 61 (.pointer (some ⟨gi, 0, none⟩)), .agg #[.int .i64 kind, .int .i64 off, .int .i64 size, .slice da dn dc]] w
      (CallPost Pr w gm gz (pre ++ mstep bs kind off size xs) fun r => resOk bs kind off size dn r) := by
  have hl2 : (pre ++ bs).length ≤ 10000000 := by rw [List.length_append]; omega
  by_cases k0 : kind = 0
  · subst k0
    obtain ⟨h1, h2, h3, h4⟩ := fitsB_0 hfit
    obtain ⟨o, rfl⟩ := Int.eq_ofNat_of_zero_le h1
    exact call_inn_0 Pr w gi gm gz off0 v pre bs xs o size da dn dc hp hin hI h hr h3 (by omega) (by omega) ho2 hl2
  by_cases k1 : kind = 1
  · subst k1
    obtain ⟨h1, h2, h3, h4⟩ := fitsB_1 hfit
    obtain ⟨o, rfl⟩ := Int.eq_ofNat_of_zero_le h1
    obtain ⟨n, rfl⟩ := Int.eq_ofNat_of_zero_le (show 0 ≤ size by omega)
    exact call_inn_1 Pr w gi gm gz off0 v pre bs o n da dn dc hp (by omega) (by omega) hin hI h va vb hV (by omega) (by omega)
  by_cases k2 : kind = 2
  · subst k2
    obtain ⟨h1, h2⟩ := fitsB_2 hfit
    obtain ⟨n, rfl⟩ := Int.eq_ofNat_of_zero_le h1
    exact call_inn_2 Pr w gi gm gz off0 v pre bs off n da dn dc (by omega) hp (by omega) hin hI h
  by_cases k3 : kind = 3
  · subst k3
    exact call_inn_3 Pr w gi gm gz off0 v pre bs off size da dn dc hin hI h
  have hx := fitsB_x hfit k0 k1 k2 k3
  have e : mstep bs kind off size xs = bs := by unfold mstep; rw [if_neg k0, if_neg k2]
  rw [e]
  have h4 : kind = 4 ∨ kind = 5 ∨ kind = 6 ∨ kind = 7 := by omega
  rcases h4 with rfl | rfl | rfl | rfl
  · exact call_inn_4 Pr w gi gm gz off0 v pre bs off size da dn dc hp (by omega) hin hI h
  · exact call_inn_5 Pr w gi gm gz off0 v pre bs off size da dn dc hin hI h
  · exact call_inn_6 Pr w gi gm gz off0 v pre bs off size da dn dc hin hI h va vb hV
  · exact call_inn_7 Pr w gi gm gz off0 v pre bs off size da dn dc hin hI h

end Go.Proofs.YtkkliejgmgmebaaDoor
