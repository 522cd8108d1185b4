/-
  impl.call over a MemFiler: ReadAt.
-/
import Derived.Test.YtkkliejgmgmebaaGreatDoorM6
namespace Go.Proofs.YtkkliejgmgmebaaGreatDoor
open Go.RowKit

/-- what ZZMem.ReadAt leaves -/
def ReadPost (Pq : Nat → Prop) (w : World) (gb bn bc : Nat) (xs : List Value) (bs : List UInt8) (off : Nat) (a : Addr) (x y : Value) (w' : World) : Prop :=
  ∃ (d q : Nat) (w2 : World), x = .int .i64 (d : Int) ∧ w' = World.drewN w2 q ∧ Row Pq w2 5 1 (.slice (some ⟨gb, 0, none⟩) bn bc) bn (splice xs 0 (u8s ((bs.drop off).take d))) ∧ Keeps (But w gb) w w2 ∧ d = min (bs.length - off) bn ∧
    ((d < bn ∧ y = .iface 115 (.pointer (some a))) ∨ (d = bn ∧ y = .nilIface))

theorem zread_any (Pr Pq : Nat → Prop) (w : World) (gz gb : Nat) (v : Value) (bs : List UInt8) (xs : List Value) (a b : Addr) (bn bc off : Nat) (hv : Vars Pr w a b) (h : ZIs Pr w gz v bs) (hb : Row Pq w 5 1 (.slice (some ⟨gb, 0, none⟩) bn bc) bn xs) (hgb : Pr gb → False) (hn : 0 < bn) (hn2 : bn ≤ 1000000) :
    Calls Tryz.prog 55 #[.pointer (some ⟨gz, 0, none⟩), .slice (some ⟨gb, 0, none⟩) bn bc, .int .i64 (off : Int)] w fun e w' => ∃ x y, e = .returned (.tuple #[x, y]) ∧ ReadPost Pq w gb bn bc xs bs off a x y w' := by
  by_cases hout : bs.length ≤ off
  · refine (zread_out Pr w gz gb v bs a b bn bc off hv h hout).mono ?_
    rintro e w' ⟨rfl, q, rfl⟩
    exact ⟨_, _, rfl, 0, q, w, rfl, rfl, by rw [List.take_zero]; simpa [splice_nil] using hb, Keeps.refl _ _, by omega, .inl ⟨hn, rfl⟩⟩
  · by_cases hs : bs.length - off < bn
    · refine (zread_short Pr Pq w gz gb v bs xs a b bn bc off (bs.length - off) hv h hb hgb (by omega) hn hn2 (by omega) hs).mono ?_
      rintro e w' ⟨rfl, q, w2, rfl, hr, hk⟩
      exact ⟨_, _, rfl, _, q, w2, rfl, rfl, hr, hk, by omega, .inl ⟨hs, rfl⟩⟩
    · refine (zread_full Pr Pq w gz gb v bs xs a b bn bc off bn hv h hb hgb (by omega) hn hn2 (by omega) rfl).mono ?_
      rintro e w' ⟨rfl, q, w2, rfl, hr, hk⟩
      exact ⟨_, _, rfl, _, q, w2, rfl, rfl, hr, hk, by omega, .inr ⟨rfl, rfl⟩⟩

theorem call_end1 {Pr : Nat → Prop} {w W' : World} {gm gz gb : Nat} {v rv : Value} {bs : List UInt8} {R : Res → Prop} {r : Res} (hk : Keeps (Old w) w W') (hin : Inw Pr w) (h : MemIs Pr w gm gz v bs) (hgb : w.heap.size ≤ gb) (hg2 : gb < W'.heap.size)
    (hr : ResV (fun k => k = gb) W' rv r) (hR : R r) : CallPost Pr w gm gz bs R (.returned rv) W' :=
  ⟨fun k => k = gb, rv, r, v, rfl, ⟨fun k e => by rw [e]; exact hg2, fun k e => by rw [e]; exact hgb⟩, hr, hR, (h.widen fun k hk hn hor => hor.elim hn fun e => by omega).kept hk fun k hk _ => hk, hk.mono hin⟩

/-- the bytes that were read, in the buffer's first places -/
theorem rd_buffer {Pq : Nat → Prop} {w : World} {gb n c d : Nat} {xs : List Value} {bs : List UInt8} (h : Row Pq w 5 1 (.slice (some ⟨gb, 0, none⟩) n c) n (splice xs 0 (u8s bs))) (hd : bs.length = d) (hdn : d ≤ n) (hx : xs.length = n) :
    Rd (fun k => k = gb) w (some ⟨gb, 0, none⟩) d bs := by
  refine ⟨hd, ?_⟩
  rcases Nat.eq_zero_or_pos d with h0 | h0
  · exact .inl (List.eq_nil_of_length_eq_zero (by omega))
  · refine .inr ⟨gb, 0, rfl, rfl, fun i x hi => ?_⟩
    have hlt : i < bs.length := (List.getElem?_eq_some_iff.1 hi).1
    rw [Nat.zero_add, h.cellAt i (by omega), splice_get _ _ _ (by rw [List.length_map]; omega), if_neg (by omega), List.length_map, if_pos (by omega), Nat.sub_zero, List.getElem?_map, hi]
    rfl

set_option maxRecDepth 100000 in
set_option maxHeartbeats 4000000 in
theorem call_mem_1 (Pr : Nat → Prop) (w : World) (gm gz : Nat) (v : Value) (bs : List UInt8) (off n : Nat) (da : Option Addr) (dn dc : Nat) (hin : Inw Pr w) (h : MemIs Pr w gm gz v bs) (va vb : Addr) (hV0 : Vars Pr w va vb) (hn0 : 0 < n) (hn : n ≤ 65536) :
    Calls Tryz.prog 26 #[.iface 68 (.pointer (some ⟨gm, 0, none⟩)), .agg #[.int .i64 1, .int .i64 (off : Int), .int .i64 (n : Int), .slice da dn dc]] w
      (CallPost Pr w gm gz bs fun r => resOk bs 1 off n dn r) := by
  obtain ⟨i0, hi, hz0, hz1, hz2⟩ := info_parts infoU8
  have hmk := fun W => make_run (P := Tryz.prog) W 22 5 i0 (.int .u8 0) Tryz.underlying22 hi hz0 hz1 hz2 n (by omega)
  have H := Lib.hid h
  have HI := Lib.hid hin
  have V := Lib.hid hV0
  clear h hin hV0
  go_enter Tryz.func26, Tryz.ntmps26
  (repeat (first | go_values | go_skip | go_guarded | go_step | go_upon))
  have hW : Keeps (Old w) w (w2B w 1 off n da dn dc) := (Keeps.alloc (fun _ h => h) _).trans (Keeps.alloc (fun k (h : k < w.heap.size) => by simp; omega) _)
  have hs : (w2B w 1 off n da dn dc).heap.size = w.heap.size + 2 := by simp
  have hb1 : (w2B w 1 off n da dn dc).heap[w.heap.size + 1]? = some (.cells #[.int .i64 0, .slice none 0 0, .int .i64 0, .int .i64 0] 60 (0, 0)) := heap_alloc2_new w _ _
  change Calls Tryz.prog _ _ ((w2B w 1 off n da dn dc).alloc (.cells (madeCells #[.int .u8 0] n) 5)) _
  generalize w2B w 1 off n da dn dc = W2 at *
  have hrow := Row.make Pr W2 (HI.out.mono hW.size) 5 (.int .u8 0) n (by omega) (B := w.heap.size + 1 + 1) (by omega)
  have hW3 : Keeps (Old w) w (W2.alloc (.cells (madeCells #[.int .u8 0] n) 5)) := hW.trans (Keeps.alloc (fun k (h : k < w.heap.size) => by omega) _)
  have hs3 : (W2.alloc (.cells (madeCells #[.int .u8 0] n) 5)).heap.size = w.heap.size + 3 := by simp; omega
  replace hb1 := (heap_alloc_lt W2 (.cells (madeCells #[.int .u8 0] n) 5) (show w.heap.size + 1 < W2.heap.size by omega)).trans hb1
  generalize W2.alloc (.cells (madeCells #[.int .u8 0] n) 5) = W3 at *
  have h3 := H.out.kept hW3 (fun k hk _ => hk)
  refine (mread_of W3 gm gz _ _ _ h3.c0 (zread_any Pr Pr W3 gz (w.heap.size + 1 + 1) v bs _ va vb n n off (V.out.keeps (hW3.mono HI.out)) h3.zis hrow (fun h => by have := HI.out _ h; omega) hn0 (by omega))).mono ?_
  rintro e w4 ⟨x, y, rfl, d, q, w5, rfl, rfl, hr5, hk5, hd, hy⟩
  have hk5' : Keeps (Old w) w w5 := hW3.trans (hk5.mono fun k (h : k < w.heap.size) => ⟨by omega, by omega⟩)
  replace hb1 := (hk5.block (w.heap.size + 1) ⟨by omega, by omega⟩).trans hb1
  have hs5 : w.heap.size + 3 ≤ w5.heap.size := by have := hk5.size; omega
  have hdn : d ≤ n := by omega
  have x9 : (d : Int) ≤ n := by omega
  have x8 : (0 : Int) ≤ d := by omega
  have hdl : ((bs.drop off).take d).length = d := by rw [List.length_take, List.length_drop]; omega
  have hdt : (bs.drop off).take d = (bs.drop off).take n := by
    rw [hd]
    by_cases hc : bs.length - off < n
    · rw [List.take_of_length_le (by rw [List.length_drop]; omega), List.take_of_length_le (by rw [List.length_drop]; omega)]
    · rw [Nat.min_eq_right (by omega)]
  have HB1 := Lib.hid (show (World.drewN w5 q).heap[w.heap.size + 1]? = _ from hb1)
  have V5 := Lib.hid (V.out.keeps ((hk5'.trans (below_keeps (below_drewN w5 q _) |>.mono fun k (h : k < w.heap.size) => Nat.lt_of_lt_of_le h hk5'.size)).mono HI.out))
  have fin1 : ∀ (W' : World) (err : Int), Keeps (fun k => k ≠ w.heap.size + 1) (World.drewN w5 q) W' → (err = if (d : Int) < n then 1 else 0) →
      CallPost Pr w gm gz bs (fun r => resOk bs 1 off n dn r) (.returned (.agg #[.int .i64 (d : Int), .slice (some ⟨w.heap.size + 1 + 1, 0, none⟩) d n, .int .i64 0, .int .i64 err])) W' := by
    intro W' err hkw herr
    have hkO : Keeps (Old w) w W' := (hk5'.trans (below_keeps (below_drewN w5 q _) |>.mono fun k (h : k < w.heap.size) => Nat.lt_of_lt_of_le h hk5'.size)).trans (hkw.mono fun k (h : k < w.heap.size) => by omega)
    have hrd := rd_buffer hr5 hdl hdn (by simp)
    have hrd2 : Rd (fun k => k = w.heap.size + 1 + 1) W' (some ⟨w.heap.size + 1 + 1, 0, none⟩) d ((bs.drop off).take d) := (hrd.keeps (Keeps.of_below (below_drewN w5 q (w.heap.size + 3)) (fun k e => by rw [e]; omega))).keeps (hkw.mono fun k e => by rw [e]; omega)
    refine call_end1 (r := ⟨d, (bs.drop off).take d, 0, err⟩) (gb := w.heap.size + 1 + 1) hkO HI.out H.out (by omega) (Nat.lt_of_lt_of_le (show w.heap.size + 1 + 1 < w5.heap.size by omega) hkw.size) ⟨some ⟨w.heap.size + 1 + 1, 0, none⟩, n, by rw [hdl], by rw [hdl]; exact hdn, by rw [hdl]; exact hrd2⟩ ?_
    exact ⟨fun e => absurd e (by decide), fun _ => ⟨hdt, by rw [hdl], by rw [hdl]; exact herr⟩, fun e => absurd e (by decide), fun e => absurd e (by decide), fun e => absurd e (by decide)⟩
  have FIN := Lib.hid fin1
  clear fin1 hb1 hs hs3 hW hW3 hrow h3 hr5 hk5 hk5' hs5 hd hdl hdt
  obtain ⟨b0, b1⟩ := cells_at HB1.out
  have x0 := b0 0
  have x1 := b0 1
  have x2 := b0 2
  have x3 := b0 3
  have f0 := b1 0
  have f1 := b1 1
  have f2 := b1 2
  have f3 := b1 3
  simp only [List.getElem?_toArray, List.getElem?_cons_succ, List.getElem?_cons_zero] at x0 x1 x2 x3
  clear b0 b1
  dsimp only
  rcases hy with ⟨hy1, rfl⟩ | ⟨hy1, rfl⟩
  · skip
    (repeat (first | go_values | go_skip | go_guarded | go_step | go_upon))
    have hn1 : ¬ Pr (w.heap.size + 1) := fun h => by have := HI.out _ h; omega
    have HV7 := Lib.hid (V5.out.keeps ((Keeps.setCell (w := World.drewN w5 q) (a := ⟨w.heap.size + 1, 0, none⟩) hn1 (.int .i64 (d : Int))).trans (Keeps.setCell (a := ⟨w.heap.size + 1, 1, none⟩) hn1 (.slice (some ⟨w.heap.size + 1 + 1, 0, none⟩) d n))))
    clear hn1
    refine (kind_eof Pr _ va vb HV7.out).mono ?_
    rintro e w6 ⟨rfl, rfl⟩
    dsimp only
    (repeat (first | go_values | go_skip | go_guarded | go_step | go_upon))
    have q0 := heap_set_same HB1.out 0 (.int .i64 (d : Int))
    have k0 := (Keeps.setCell (Pr := fun k => k ≠ w.heap.size + 1) (a := ⟨w.heap.size + 1, 0, none⟩) (fun h => h rfl) (.int .i64 (d : Int)) : Keeps _ (World.drewN w5 q) _)
    have q1 := heap_set_same q0 1 (.slice (some ⟨w.heap.size + 1 + 1, 0, none⟩) d n)
    have k1 := k0.trans (Keeps.setCell (Pr := fun k => k ≠ w.heap.size + 1) (a := ⟨w.heap.size + 1, 1, none⟩) (fun h => h rfl) (.slice (some ⟨w.heap.size + 1 + 1, 0, none⟩) d n))
    have q2 := heap_set_same q1 3 (.int .i64 1)
    have k2 := k1.trans (Keeps.setCell (Pr := fun k => k ≠ w.heap.size + 1) (a := ⟨w.heap.size + 1, 3, none⟩) (fun h => h rfl) (.int .i64 1))
    have q3 := heap_set_same q2 0 (.int .i64 (d : Int))
    have k3 := k2.trans (Keeps.setCell (Pr := fun k => k ≠ w.heap.size + 1) (a := ⟨w.heap.size + 1, 0, none⟩) (fun h => h rfl) (.int .i64 (d : Int)))
    have q4 := heap_set_same q3 1 (.slice (some ⟨w.heap.size + 1 + 1, 0, none⟩) d n)
    have k4 := k3.trans (Keeps.setCell (Pr := fun k => k ≠ w.heap.size + 1) (a := ⟨w.heap.size + 1, 1, none⟩) (fun h => h rfl) (.slice (some ⟨w.heap.size + 1 + 1, 0, none⟩) d n))
    have q5 := heap_set_same q4 2 (.int .i64 0)
    have k5 := k4.trans (Keeps.setCell (Pr := fun k => k ≠ w.heap.size + 1) (a := ⟨w.heap.size + 1, 2, none⟩) (fun h => h rfl) (.int .i64 0))
    have q6 := heap_set_same q5 3 (.int .i64 1)
    have k6 := k5.trans (Keeps.setCell (Pr := fun k => k ≠ w.heap.size + 1) (a := ⟨w.heap.size + 1, 3, none⟩) (fun h => h rfl) (.int .i64 1))
    exact bodyPost_ret (results_cell_row rfl _ _ (w.heap.size + 1) 60 _ _ _ rfl q6 Tryz.underlying60 rfl (by kernel_rfl)) rfl
      (FIN.out _ 1 k6 (if_pos (show (d : Int) < n by omega)).symm)
  · have HY := Lib.hid hy1
    clear hy1
    (repeat (first | go_values | go_skip | go_guarded | go_step | go_upon))
    refine (kind_nil _).mono ?_
    rintro e w6 ⟨rfl, rfl⟩
    dsimp only
    (repeat (first | go_values | go_skip | go_guarded | go_step | go_upon))
    have q0 := heap_set_same HB1.out 0 (.int .i64 (d : Int))
    have k0 := (Keeps.setCell (Pr := fun k => k ≠ w.heap.size + 1) (a := ⟨w.heap.size + 1, 0, none⟩) (fun h => h rfl) (.int .i64 (d : Int)) : Keeps _ (World.drewN w5 q) _)
    have q1 := heap_set_same q0 1 (.slice (some ⟨w.heap.size + 1 + 1, 0, none⟩) d n)
    have k1 := k0.trans (Keeps.setCell (Pr := fun k => k ≠ w.heap.size + 1) (a := ⟨w.heap.size + 1, 1, none⟩) (fun h => h rfl) (.slice (some ⟨w.heap.size + 1 + 1, 0, none⟩) d n))
    have q2 := heap_set_same q1 3 (.int .i64 0)
    have k2 := k1.trans (Keeps.setCell (Pr := fun k => k ≠ w.heap.size + 1) (a := ⟨w.heap.size + 1, 3, none⟩) (fun h => h rfl) (.int .i64 0))
    have q3 := heap_set_same q2 0 (.int .i64 (d : Int))
    have k3 := k2.trans (Keeps.setCell (Pr := fun k => k ≠ w.heap.size + 1) (a := ⟨w.heap.size + 1, 0, none⟩) (fun h => h rfl) (.int .i64 (d : Int)))
    have q4 := heap_set_same q3 1 (.slice (some ⟨w.heap.size + 1 + 1, 0, none⟩) d n)
    have k4 := k3.trans (Keeps.setCell (Pr := fun k => k ≠ w.heap.size + 1) (a := ⟨w.heap.size + 1, 1, none⟩) (fun h => h rfl) (.slice (some ⟨w.heap.size + 1 + 1, 0, none⟩) d n))
    have q5 := heap_set_same q4 2 (.int .i64 0)
    have k5 := k4.trans (Keeps.setCell (Pr := fun k => k ≠ w.heap.size + 1) (a := ⟨w.heap.size + 1, 2, none⟩) (fun h => h rfl) (.int .i64 0))
    have q6 := heap_set_same q5 3 (.int .i64 0)
    have k6 := k5.trans (Keeps.setCell (Pr := fun k => k ≠ w.heap.size + 1) (a := ⟨w.heap.size + 1, 3, none⟩) (fun h => h rfl) (.int .i64 0))
    exact bodyPost_ret (results_cell_row rfl _ _ (w.heap.size + 1) 60 _ _ _ rfl q6 Tryz.underlying60 rfl (by kernel_rfl)) rfl
      (FIN.out _ 0 k6 (if_neg (show ¬ (d : Int) < n by have := HY.out; omega)).symm)

end Go.Proofs.YtkkliejgmgmebaaGreatDoor
