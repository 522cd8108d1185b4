/-
  impl.call over a RollbackFiler: writing.
-/
import Derived.Test.YtkkliejgmgmebaaGreatDoorR30
namespace Go.Proofs.YtkkliejgmgmebaaGreatDoor
open Go.RowKit

theorem nil_ahead_wR (a : Addr) (w : World) : (nilAhead 280 57 (.pointer (some a)) "WriteAt").run Tryz.prog w = .ok (some false) w := by kernel_rfl
theorem method_wR (a : Addr) (w : World) : (method 280 57 (.pointer (some a)) "WriteAt").run Tryz.prog w = .ok (66, .pointer (some a)) w := by kernel_rfl

/-- what the writing behind the clone leaves: its two results, and the rest of the call -/
def WrAft (tg : Nat → Nat × Nat) (w W2 : World) (gr gc : Nat) (S : St) (off : Nat) (xs : List UInt8) (va vb : Addr) (x : Int) (y : Value) (w' : World) : Prop :=
  ∃ (tg1 tg' : Nat → Nat × Nat) (w3 : World) (S' : St), Keeps (Old w) w w3 ∧ w.heap.size + 2 ≤ w3.heap.size ∧ (∀ j, j < w.heap.size → tg1 j = tg j) ∧ (∀ j, w.heap.size ≤ j → tg1 j = (500, 0)) ∧ RbIs 0 0 0 tg' w' gr gc S' va vb ∧ (∀ j, j < w3.heap.size → tg' j = tg1 j) ∧ Keeps (OutR tg1 w3 gr) w3 w' ∧
    w'.heap[w.heap.size + 1]? = W2.heap[w.heap.size + 1]? ∧
    ((S.t = 0 ∧ x = 0 ∧ (∃ p, y = .iface 109 (.pointer (some p))) ∧ S' = S) ∨ (0 < S.t ∧ x = (xs.length : Int) ∧ y = .nilIface ∧ Written S S' off xs))

theorem roll_after {tg : Nat → Nat × Nat} {w W2 w3 : World} {gr gc : Nat} {S : St} {va vb : Addr} {ac : Option Addr} {dn cc off : Nat} {xs : List UInt8} (h : RbIs 0 0 0 tg w gr gc S va vb) (hW : Keeps (Old w) w W2) (hs : W2.heap.size = w.heap.size + 2)
    (hrow : Row (Old W2) w3 5 1 (.slice ac dn cc) dn (u8s xs)) (hown : ∀ k, (Value.slice ac dn cc).ownBlock = some k → W2.heap.size ≤ k) (hkC : Keeps (Old W2) W2 w3) (hn : dn ≤ 131072) (ho : off ≤ 131072) :
    Calls Tryz.prog 66 #[.pointer (some ⟨gr, 0, none⟩), .slice ac dn cc, .int .i64 (off : Int)] w3 fun e w' => ∃ x y, e = .returned (.tuple #[.int .i64 x, y]) ∧ WrAft tg w W2 gr gc S off xs va vb x y w' := by
  have hgr := lt_of_heap (h.roll.choose_spec.1)
  have s3 := hkC.size
  have hW3 : Keeps (Old w) w w3 := hW.trans (hkC.mono fun k (hk : k < w.heap.size) => by show k < W2.heap.size; omega)
  obtain ⟨tg1, t1o, t1n, h3⟩ := h.fresh hW3
  have hxl : xs.length = dn := by have := hrow.1; simpa using this
  obtain ⟨_, _, e1, hdc, -⟩ := hrow.slice
  simp only [Value.slice.injEq, true_and] at e1
  obtain ⟨rfl, rfl⟩ := e1
  have hbx : w3.heap[w.heap.size + 1]? = W2.heap[w.heap.size + 1]? := hkC.block (w.heap.size + 1) (show w.heap.size + 1 < W2.heap.size by omega)
  by_cases ht : S.t = 0
  · refine (rwrite0 _ _ _ _ h3 ht).mono ?_
    rintro e w' ⟨p, rfl, h4, k4⟩
    have k4' : Keeps (OutR tg1 w3 gr) w3 w' := k4.mono fun j hj => ⟨hj.1, hj.2.2⟩
    exact ⟨_, _, rfl, tg1, tg1, w3, S, hW3, by omega, t1o, t1n, h4, fun _ _ => rfl, k4', (k4.block (w.heap.size + 1) ⟨by omega, by omega⟩).trans hbx, .inl ⟨ht, rfl, ⟨p, rfl⟩, rfl⟩⟩
  · have hrd : Rd (OutR tg1 w3 gr) w3 _ dn xs := hrow.rdOwn.mono fun k hk => ⟨(hrow.own hk).1, by rw [t1n k (by have := hown k hk; omega)]; decide, by have := hown k hk; omega⟩
    refine (rwrite1 _ dn _ off xs h3 (by omega) hrd hdc (by omega) (by omega)).mono ?_
    rintro e w' ⟨rfl, tg', S', hU, hsz, hraw, hdr, h4, t4, k4⟩
    exact ⟨_, _, rfl, tg1, tg', w3, S', hW3, by omega, t1o, t1n, h4, t4, k4, (k4.block (w.heap.size + 1) ⟨by omega, by rw [t1n _ (by omega)]; decide, by omega⟩).trans hbx, .inr ⟨by omega, by rw [hxl], rfl, hU, hsz, hraw, hdr⟩⟩

set_option maxRecDepth 100000 in
set_option maxHeartbeats 4000000 in
theorem call_roll_0 {tg : Nat → Nat × Nat} {w : World} {gr gc : Nat} {S : St} {va vb : Addr} (Pr : Nat → Prop) (off : Nat) (size : Int) (da : Option Addr) (dn dc : Nat) (xs : List UInt8) (h : RbIs 0 0 0 tg w gr gc S va vb) (hin : Inw Pr w) (hr : Rd Pr w da dn xs) (hn : 0 < dn) (hn2 : dn ≤ 131072) (ho : off ≤ 131072) :
    Calls Tryz.prog 26 #[.iface 57 (.pointer (some ⟨gr, 0, none⟩)), .agg #[.int .i64 0, .int .i64 (off : Int), .int .i64 size, .slice da dn dc]] w
      (CallR tg w gr gc va vb fun r S' => SStep S 0 off size xs r S') := by
  have H := Lib.hid h
  have HI := Lib.hid hin
  have HR := Lib.hid hr
  clear h hin hr
  go_enter Tryz.func26, Tryz.ntmps26
  (repeat (first | go_values | go_skip | go_guarded | go_step | go_upon))
  have hW : Keeps (Old w) w (w2B w 0 off size da dn dc) := (Keeps.alloc (fun _ h => h) _).trans (Keeps.alloc (fun k (h : k < w.heap.size) => by simp; omega) _)
  have hs : (w2B w 0 off size da dn dc).heap.size = w.heap.size + 2 := by simp
  have hb0 : (w2B w 0 off size da dn dc).heap[w.heap.size]? = some (.cells #[.int .i64 0, .int .i64 (off : Int), .int .i64 size, .slice da dn dc] 42 (0, 0)) := heap_alloc2_old w _ _
  have hb1 : (w2B w 0 off size da dn dc).heap[w.heap.size + 1]? = some (.cells #[.int .i64 0, .slice none 0 0, .int .i64 0, .int .i64 0] 60 (0, 0)) := heap_alloc2_new w _ _
  change Code.wp Tryz.prog _ _ _ (w2B w 0 off size da dn dc)
  generalize w2B w 0 off size da dn dc = W2 at *
  obtain ⟨y0, -⟩ := cells_at hb0
  have y1 := y0 1
  have y3 := y0 3
  simp only [List.getElem?_toArray, List.getElem?_cons_succ, List.getElem?_cons_zero] at y1 y3
  clear y0
  have CL := Lib.hid (fun (W : World) (hk : Keeps (Old w) w W) => clone_any (Old W) W da dn dc xs (fun _ h => h) ((HR.out.keeps (hk.mono HI.out)).mono fun k hp => Nat.lt_of_lt_of_le (HI.out k hp) hk.size) (by omega))
  have HW := Lib.hid hW
  have HS := Lib.hid hs
  have HB0 := Lib.hid hb0
  have HB1 := Lib.hid hb1
  clear hW hs hb0 hb1
  have na := nil_ahead_wR ⟨gr, 0, none⟩
  have me := method_wR ⟨gr, 0, none⟩
  refine wp_blind ?_
  go_region_with (first
    | (go_at_call 16; refine (CL.out _ (HW.out.trans (Keeps.drew _ _))).mono ?_; rintro e w3 ⟨vC, rfl, hrow, -, hown, hkC⟩; obtain ⟨ac, cc, rfl, -⟩ := hrow.slice; have z1 := (hkC.cell (a := ⟨w.heap.size, 1, none⟩) (show w.heap.size < W2.heap.size by have := HS.out; omega)).trans y1; have WA := Lib.hid (roll_after H.out HW.out HS.out hrow hown ((Keeps.drew (Old W2) W2).trans hkC) hn2 ho); clear hrow hown hkC)
    | (go_at_call 66; refine WA.out.mono ?_; rintro e w4 ⟨vx, vy, rfl, hA⟩; obtain ⟨b0, b1⟩ := cells_at (hA.choose_spec.choose_spec.choose_spec.choose_spec.2.2.2.2.2.2.2.1.trans HB1.out); have x0 := b0 0; have x1 := b0 1; have x2 := b0 2; have x3 := b0 3; have f0 := b1 0; have f1 := b1 1; have f2 := b1 2; have f3 := b1 3; simp only [List.getElem?_toArray, List.getElem?_cons_succ, List.getElem?_cons_zero] at x0 x1 x2 x3; have HA := Lib.hid hA; clear hA b0 b1))
  all_goals
    simp only [onlyNormal]
    (repeat (first | go_values | go_skip | go_guarded | go_step | go_upon))
    obtain ⟨tg1, tg5, w5, S5, a1, a2, a3, a4, a5, a6, a7, a8, a9⟩ := HA.out
    have FIN := Lib.hid (fun (W' : World) (rv : Value) (r : Res) => callR_end (X := fun _ => False) (W' := W') (rv := rv) (r := r) (R := fun r S' => SStep S 0 off size xs r S') a1 a2 a3 a4 a5 a6 a7 (fun _ h => h.elim))
    have HBB := Lib.hid (a8.trans HB1.out)
    have HBT : tg5 (w.heap.size + 1) = (500, 0) := (a6 _ (by omega)).trans (a4 _ (by omega))
    have V := Lib.hid a5.vars
    rcases a9 with ⟨ht, rfl, ⟨p, rfl⟩, hS⟩ | ⟨ht, rfl, rfl, hw⟩
    · have hv7 := V.out.keeps (Keeps.setCell (w := w4) (Pr := fun k => k < w4.heap.size ∧ 1000 ≤ (tg5 k).1) (a := ⟨w.heap.size + 1, 0, none⟩) (fun h => by have h2 := h.2; rw [HBT] at h2; exact absurd h2 (by decide)) (.int .i64 0))
      have HV7 := Lib.hid hv7
      clear hv7 a1 a2 a3 a4 a5 a6 a7 a8
      refine (kind_perm2 _ _ va vb _ HV7.out).mono ?_
      rintro e w6 ⟨rfl, rfl⟩
      dsimp only
      (repeat (first | go_values | go_skip | go_guarded | go_step | go_upon))
      have q0 := heap_set_same HBB.out 0 (.int .i64 0)
      have k0 := (Keeps.setCell (Pr := fun k => k ≠ w.heap.size + 1) (a := ⟨w.heap.size + 1, 0, none⟩) (fun h => h rfl) (.int .i64 0) : Keeps _ w4 _)
      have q1 := heap_set_same q0 3 (.int .i64 2)
      have k1 := k0.trans (Keeps.setCell (Pr := fun k => k ≠ w.heap.size + 1) (a := ⟨w.heap.size + 1, 3, none⟩) (fun h => h rfl) (.int .i64 2))
      have q2 := heap_set_same q1 0 (.int .i64 0)
      have k2 := k1.trans (Keeps.setCell (Pr := fun k => k ≠ w.heap.size + 1) (a := ⟨w.heap.size + 1, 0, none⟩) (fun h => h rfl) (.int .i64 0))
      have q3 := heap_set_same q2 1 (.slice none 0 0)
      have k3 := k2.trans (Keeps.setCell (Pr := fun k => k ≠ w.heap.size + 1) (a := ⟨w.heap.size + 1, 1, none⟩) (fun h => h rfl) (.slice none 0 0))
      have q4 := heap_set_same q3 2 (.int .i64 0)
      have k4 := k3.trans (Keeps.setCell (Pr := fun k => k ≠ w.heap.size + 1) (a := ⟨w.heap.size + 1, 2, none⟩) (fun h => h rfl) (.int .i64 0))
      have q5 := heap_set_same q4 3 (.int .i64 2)
      have k5 := k4.trans (Keeps.setCell (Pr := fun k => k ≠ w.heap.size + 1) (a := ⟨w.heap.size + 1, 3, none⟩) (fun h => h rfl) (.int .i64 2))
      exact bodyPost_ret (results_cell_row rfl _ _ (w.heap.size + 1) 60 _ _ _ rfl q5 Tryz.underlying60 rfl (by kernel_rfl)) rfl
        (FIN.out _ _ _ k5 (res_nil _ _ 0 0 2) ⟨fun _ _ => ⟨rfl, hS⟩, fun _ h0 => absurd ht (Nat.pos_iff_ne_zero.1 h0), fun e => absurd e (by decide), fun e => absurd e (by decide), fun e => absurd e (by decide), fun e => absurd e (by decide), fun e => absurd e (by decide), fun e => absurd e (by decide)⟩)
    · clear a1 a2 a3 a4 a5 a6 a7 a8
      refine (kind_nil _).mono ?_
      rintro e w6 ⟨rfl, rfl⟩
      dsimp only
      (repeat (first | go_values | go_skip | go_guarded | go_step | go_upon))
      have q0 := heap_set_same HBB.out 0 (.int .i64 (xs.length : Int))
      have k0 := (Keeps.setCell (Pr := fun k => k ≠ w.heap.size + 1) (a := ⟨w.heap.size + 1, 0, none⟩) (fun h => h rfl) (.int .i64 (xs.length : Int)) : Keeps _ w4 _)
      have q1 := heap_set_same q0 3 (.int .i64 0)
      have k1 := k0.trans (Keeps.setCell (Pr := fun k => k ≠ w.heap.size + 1) (a := ⟨w.heap.size + 1, 3, none⟩) (fun h => h rfl) (.int .i64 0))
      have q2 := heap_set_same q1 0 (.int .i64 (xs.length : Int))
      have k2 := k1.trans (Keeps.setCell (Pr := fun k => k ≠ w.heap.size + 1) (a := ⟨w.heap.size + 1, 0, none⟩) (fun h => h rfl) (.int .i64 (xs.length : Int)))
      have q3 := heap_set_same q2 1 (.slice none 0 0)
      have k3 := k2.trans (Keeps.setCell (Pr := fun k => k ≠ w.heap.size + 1) (a := ⟨w.heap.size + 1, 1, none⟩) (fun h => h rfl) (.slice none 0 0))
      have q4 := heap_set_same q3 2 (.int .i64 0)
      have k4 := k3.trans (Keeps.setCell (Pr := fun k => k ≠ w.heap.size + 1) (a := ⟨w.heap.size + 1, 2, none⟩) (fun h => h rfl) (.int .i64 0))
      have q5 := heap_set_same q4 3 (.int .i64 0)
      have k5 := k4.trans (Keeps.setCell (Pr := fun k => k ≠ w.heap.size + 1) (a := ⟨w.heap.size + 1, 3, none⟩) (fun h => h rfl) (.int .i64 0))
      exact bodyPost_ret (results_cell_row rfl _ _ (w.heap.size + 1) 60 _ _ _ rfl q5 Tryz.underlying60 rfl (by kernel_rfl)) rfl
        (FIN.out _ _ _ k5 (res_nil _ _ _ 0 0) ⟨fun _ h0 => absurd h0 (Nat.pos_iff_ne_zero.1 ht), fun _ _ => ⟨rfl, by rw [Int.toNat_natCast]; exact hw⟩, fun e => absurd e (by decide), fun e => absurd e (by decide), fun e => absurd e (by decide), fun e => absurd e (by decide), fun e => absurd e (by decide), fun e => absurd e (by decide)⟩)

end Go.Proofs.YtkkliejgmgmebaaGreatDoor
