/-
  RollbackFiler.EndUpdate: its parts.
-/
import Derived.Test.YtkkliejgmgmebaaGreatDoorRj
namespace Go.Proofs.YtkkliejgmgmebaaGreatDoor
open Go.RowKit

set_option maxRecDepth 100000 in
theorem rend0 {tg : Nat → Nat × Nat} {w : World} {gr gc : Nat} {S : St} {va vb : Addr} (h : RbIs 0 0 0 tg w gr gc S va vb) (ht : S.t = 0) :
    Calls Tryz.prog 59 #[.pointer (some ⟨gr, 0, none⟩)] w fun e w' => ∃ p, e = .returned (.iface 109 (.pointer (some p))) ∧ NotLet tg w gr gc S va vb w' := by
  obtain ⟨bp, hr, hbp⟩ := (h.alloc (boxO gr)).roll
  have hgr := lt_of_heap (h.roll.choose_spec.1)
  have hb := box_at w gr
  have hc := box_cell hb
  have H := Lib.hid (h.alloc (boxO gr))
  have HR := Lib.hid hr
  have HB := Lib.hid hbp
  have HT := Lib.hid ht
  have HX := Lib.hid hb
  have na := nil_ahead_nM ⟨S.gm, 0, none⟩
  have me := method_nM ⟨S.gm, 0, none⟩
  clear h hr hbp ht hb
  go_enter_defers Tryz.func59, Tryz.ntmps59
  (repeat (first | go_values | go_skip | go_guarded | go_step | go_upon))
  refine (wl_any HR.out).mono ?_
  rintro e w1 ⟨rfl, hr1, hk1⟩
  obtain ⟨-, -, c14, -, -, c17, -⟩ := hr1.cells
  rw [HT.out, show ((0 : Nat) : Int) = 0 from rfl] at c17
  have hc1 := box_cell ((hk1.block w.heap.size (by omega)).trans HX.out)
  have H1 := Lib.hid (H.out.locked HB.out hr1 hk1)
  have HK1 := Lib.hid ((Keeps.alloc (w := w) (fun j (hj : j < w.heap.size ∧ j ≠ gr) => hj.1) (boxO gr)).trans (hk1.mono fun j hj => hj.2))
  clear hr1 hk1 hc
  dsimp only
  (repeat (first | go_values | go_skip | go_guarded | go_step | go_upon))
  refine (mname_any _ _).mono ?_
  rintro e w2 ⟨⟨s, rfl, hs⟩, rfl⟩
  dsimp only
  (repeat (first | go_values | go_skip | go_guarded | go_step | go_upon))
  refine leaves_cons (f := 68) (args := #[.pointer (some ⟨gr, 0, none⟩)]) (by simp) (by simp [go_sem]) ?_
  obtain ⟨bp', hr', hb'⟩ := (H1.out.alloc _).roll
  refine (wu_any .returning hr').mono ?_
  rintro e u' w3 ⟨rfl, rfl, hr3, hk3⟩
  exact ⟨_, results_tmp rfl _ _ _, _, rfl, (H1.out.alloc _).locked hb' hr3 hk3, (HK1.out.trans (Keeps.alloc (fun j hj => Nat.lt_of_lt_of_le hj.1 HK1.out.size) _)).trans (hk3.mono fun j hj => hj.2)⟩

/-- the receiver is boxed: the box lies outside the levels -/
theorem RbIs.boxed {tg : Nat → Nat × Nat} {w : World} {gr gc : Nat} {S : St} {va vb : Addr} (h : RbIs 0 0 0 tg w gr gc S va vb) :
    ∃ tg1 : Nat → Nat × Nat, (∀ j, j < w.heap.size → tg1 j = tg j) ∧ (tg1 w.heap.size).1 = 900 ∧ RbIs 0 0 0 tg1 (w.alloc (boxO gr)) gr gc S va vb := by
  have h0 := h.alloc (boxO gr)
  have hk : Keeps (Old w) w (w.alloc (boxO gr)) := Keeps.alloc (fun _ h => h) _
  refine ⟨fun j => if j < w.heap.size then tg j else (900, 0), fun j hj => if_pos hj, by show (if w.heap.size < w.heap.size then tg w.heap.size else (900, 0)).1 = 900; rw [if_neg (Nat.lt_irrefl _)], ?_⟩
  exact h.step (h.st.kept (fun j hj _ => hk.block j hj) (fun j hj _ => if_pos hj)) (fun j hj => if_pos hj) (hk.mono fun j hj => hj.1) rfl rfl rfl

set_option maxRecDepth 100000 in
/-- the deferred closure: the top level is let go -/
theorem endD_any (u : FrameMode) {tg : Nat → Nat × Nat} {w : World} {gr gc gm x k t : Nat} {m r r2 : Int} {par : Value} {L : Lv} (hb : w.heap[x]? = some (boxO gr)) (hr : RollAt w gr m r r2 gm gc t (some ⟨L.b, 0, none⟩)) (hl : LvIs tg w k par L) :
    CallsD Tryz.prog 72 #[.pointer (some ⟨x, 0, none⟩)] u w fun e u' w' => u' = u ∧ (e = .returned (.tuple #[]) ∧ RollAt w' gr m r r2 gm gc t none ∧ Keeps (fun j => j < w.heap.size ∧ j ≠ gr) w w') := by
  have hbf := bfree tg w k par L hl
  have hc := box_cell hb
  obtain ⟨c12, -⟩ := hr.cells
  have HB := Lib.hid hb
  have HR := Lib.hid hr
  have HF := Lib.hid hbf
  clear hb hr hbf
  go_enter_d Tryz.func72, Tryz.ntmps72
  (repeat (first | go_values | go_skip | go_guarded | go_step | go_upon))
  refine HF.out.mono ?_
  rintro e w1 ⟨rfl, hk1⟩
  have hr1 := (hk1.block gr (lt_of_heap HR.out)).trans HR.out
  obtain ⟨d12, -, -, -, -, -, -, f12, -⟩ := RollAt.cells hr1
  have hc1 := box_cell ((hk1.block x (lt_of_heap HB.out)).trans HB.out)
  have HR1 := Lib.hid hr1
  have HK1 := Lib.hid hk1
  clear hr1 hk1 hc
  dsimp only
  (repeat (first | go_values | go_skip | go_guarded | go_step | go_upon))
  refine bodyPost_end (results_none rfl _ _ _) rfl ⟨rfl, heap_set_same HR1.out 12 _, (HK1.out.mono fun j hj => hj.1).trans (Keeps.setCell (a := ⟨gr, 12, none⟩) (fun hh => hh.2 rfl) _)⟩

theorem nil_ahead_tM (a : Addr) (w : World) : (nilAhead 280 68 (.pointer (some a)) "Truncate").run Tryz.prog w = .ok (some false) w := by kernel_rfl
theorem method_tM (a : Addr) (w : World) : (method 280 68 (.pointer (some a)) "Truncate").run Tryz.prog w = .ok (30, .pointer (some a)) w := by kernel_rfl
theorem nil_ahead_tB (a : Addr) (w : World) : (nilAhead 280 105 (.pointer (some a)) "Truncate").run Tryz.prog w = .ok (some false) w := by kernel_rfl
theorem method_tB (a : Addr) (w : World) : (method 280 105 (.pointer (some a)) "Truncate").run Tryz.prog w = .ok (80, .pointer (some a)) w := by kernel_rfl

set_option maxRecDepth 100000 in
/-- the checkpoint: the file is truncated -/
theorem ck_any {tg : Nat → Nat × Nat} {w : World} {S : St} {gc n : Nat} (hS : StIs tg w S) (hb : w.heap[gc]? = some (.cells #[.pointer (some ⟨S.gm, 0, none⟩)] 68 (0, 0))) (hn : n ≤ 299008) :
    Calls Tryz.prog 29 #[.int .i64 (n : Int), .pointer (some ⟨gc, 0, none⟩)] w fun e w' => e = .returned .nilIface ∧ PTrPost tg w S 0 n w' := by
  have hf := ftrunc tg w S n hS hn
  have hc : w.cell? ⟨gc, 0, none⟩ = some (.pointer (some ⟨S.gm, 0, none⟩)) := (cells_at hb).1 0
  have HF := Lib.hid hf
  clear hf hb
  go_enter Tryz.func29, Tryz.ntmps29
  (repeat (first | go_values | go_skip | go_guarded | go_step | go_upon))
  refine HF.out.mono ?_
  rintro e w1 ⟨rfl, hp⟩
  have HP := Lib.hid hp
  clear hp
  dsimp only
  (repeat (first | go_values | go_skip | go_guarded | go_step | go_upon))
  go_ret
  exact ⟨rfl, HP.out⟩

/-- what the end of a transaction leaves -/
def REnd (tg : Nat → Nat × Nat) (w : World) (gr gc : Nat) (S : St) (k : Nat) (va vb : Addr) (w' : World) : Prop :=
  ∃ tg' S', Ended k S S' ∧ RbIs 0 0 0 tg' w' gr gc S' va vb ∧ (∀ j, j < w.heap.size → tg' j = tg j) ∧ Keeps (OutR tg w gr) w w'

end Go.Proofs.YtkkliejgmgmebaaGreatDoor

namespace Go.Proofs.YtkkliejgmgmebaaGreatDoor
open Go.RowKit

theorem end_fin {tg tg1 tg5 : Nat → Nat × Nat} {w w1 w5 : World} {gr gc k : Nat} {m r : Int} {S S' : St} {va vb : Addr} {bp : Option Addr} (h1 : RbIs m r 0 tg1 w1 gr gc S va vb) (t1 : ∀ j, j < w.heap.size → tg1 j = tg j) (k01 : Keeps (fun j => j < w.heap.size ∧ j ≠ gr) w w1)
    (E : Ended k S S') (hst : StIs tg5 w5 S') (t5 : ∀ j, j < w1.heap.size → tg5 j = tg1 j) (hr : RollAt w5 gr 0 0 0 S.gm gc k bp) (hbp : 0 < k → bp = some (S'.ptr k)) (k15 : Keeps (fun j => j < w1.heap.size ∧ k + 1 < (tg1 j).1 ∧ j ≠ gr) w1 w5) (hk : k ≤ 30) : REnd tg w gr gc S k va vb w5 := by
  have hs := k01.size
  refine ⟨tg5, S', E, h1.renew (bp := bp) hst t5 (k15.mono fun j hj => ⟨hj.1, by omega, hj.2.2⟩) E.gm (by rw [E.gm, E.t]; exact hr) (by rw [E.t]; exact hbp), fun j hj => (t5 j (by omega)).trans (t1 j hj), (k01.mono fun j hj => ⟨hj.1, hj.2.2⟩).trans (k15.mono fun j hj => ⟨by have := hj.1; omega, by rw [t1 j hj.1]; have := hj.2.1; omega, hj.2.2⟩)⟩

/-- the top level is written to the one beneath -/
theorem end_dump {tg : Nat → Nat × Nat} {w : World} {gr gc k : Nat} {m r : Int} {S : St} {va vb : Addr} (h : RbIs m r 0 tg w gr gc S va vb) (hk : S.t = k + 1) :
    RollAt (w.setCell ⟨gr, 17, none⟩ (.int .i64 (k : Int))) gr m r 0 S.gm gc k (some ⟨(S.L (k + 1)).b, 0, none⟩) ∧ Keeps (fun j => j ≠ gr) w (w.setCell ⟨gr, 17, none⟩ (.int .i64 (k : Int))) ∧
    Calls Tryz.prog 71 #[.pointer (some ⟨(S.L (k + 1)).b, 0, none⟩), S.par k] (w.setCell ⟨gr, 17, none⟩ (.int .i64 (k : Int))) fun e w' => ∃ W tg' S', e = .returned (.tuple #[.int .i64 (cntW W : Int), .nilIface]) ∧ DumpPost tg (w.setCell ⟨gr, 17, none⟩ (.int .i64 (k : Int))) k (S.pop k) (S.L (k + 1)) W tg' S' w' := by
  obtain ⟨bp, hr, hbp⟩ := h.roll
  have tt := h.st.tt
  have tr := h.tr
  rw [hbp (by omega), hk] at hr
  have kk : Keeps (fun j => j ≠ gr) w (w.setCell ⟨gr, 17, none⟩ (.int .i64 (k : Int))) := Keeps.setCell (a := ⟨gr, 17, none⟩) (fun hh => hh rfl) _
  have hst : StIs tg (w.setCell ⟨gr, 17, none⟩ (.int .i64 (k : Int))) S := h.st.kept (fun j _ h2 => kk.block j fun e => by subst e; omega) (fun _ _ _ => rfl)
  have hl := hst.lv k (by omega)
  have hv : VarsO tg (w.setCell ⟨gr, 17, none⟩ (.int .i64 (k : Int))) va vb := (h.vars.keeps (kk.mono fun j hj e => by subst e; omega)).mono fun j hj => ⟨Nat.lt_of_lt_of_le hj.1 kk.size, hj.2⟩
  refine ⟨heap_set_same hr 17 _, kk, ?_⟩
  have hd := bdump tg _ k (S.pop k) (S.L (k + 1)) va vb (hst.pop (by omega)) rfl (by omega) (by rw [St.pop_par]; exact hl) (hst.pl k (by omega)) hv
  rw [St.pop_par] at hd
  exact hd

theorem DumpPost.none {tg tg' tg0 : Nat → Nat × Nat} {w w' w0 : World} {k j : Nat} {S S' : St} {L : Lv} {W : Nat → Bool} (h : DumpPost tg w k S L W tg' S' w') {par : Value} (hl : LvIs tg0 w0 j par L) (h0 : cntW W = 0) (p : Nat) : W p = false := by
  by_cases hp : p < 73
  · exact cntW_zero h0 p hp
  · cases hw : W p with
    | false => rfl
    | true =>
      obtain ⟨x, hx, -⟩ := (h.wd p).1 hw
      exact absurd (hl.map.lt (p := p) (by simp [hx])) hp

theorem cntW_some {W : Nat → Bool} (h : cntW W ≠ 0) : ∃ p, W p = true := by
  apply Classical.byContradiction
  intro hn
  apply h
  unfold cntW
  rw [List.length_eq_zero_iff, List.filter_eq_nil_iff]
  intro p _ hp
  exact hn ⟨p, hp⟩

theorem DumpPost.some {tg tg' : Nat → Nat × Nat} {w w' : World} {k : Nat} {S S' : St} {W : Nat → Bool} (h : DumpPost tg w k (S.pop k) (S.L (k + 1)) W tg' S' w') (h0 : cntW W ≠ 0) : ∃ p, S.dirty (k + 1) p = true := by
  obtain ⟨p, hp⟩ := cntW_some h0
  exact ⟨p, (dirty_iff S (k + 1) p).2 ((h.wd p).1 hp)⟩

theorem run_makeFn (fn : Fn) (first cap : Array Value) (w : World) : (Instr.makeFunc fn first cap).run Tryz.prog w = .ok (.func fn first cap) w := rfl

set_option maxRecDepth 100000 in
set_option maxHeartbeats 4000000 in
theorem rendA {tg : Nat → Nat × Nat} {w : World} {gr gc : Nat} {S : St} {va vb : Addr} (h : RbIs 0 0 0 tg w gr gc S va vb) (ht : S.t = 1) :
    Calls Tryz.prog 59 #[.pointer (some ⟨gr, 0, none⟩)] w fun e w' => e = .returned .nilIface ∧ REnd tg w gr gc S 0 va vb w' := by
  obtain ⟨tg1, t1o, t1n, h0⟩ := h.boxed
  obtain ⟨bp, hr, hbp⟩ := h0.roll
  have hgr := lt_of_heap (h.roll.choose_spec.1)
  have hcg : gc ≠ gr := fun e => by
    have hb := h0.box
    rw [e, hr] at hb
    simp at hb
  have hb := box_at w gr
  have hc := box_cell hb
  have tr1 : (tg1 gr).1 = 900 := h0.tr
  have tc1 : (tg1 gc).1 = 900 := h0.tc
  have H := Lib.hid h0
  have HR := Lib.hid hr
  have HB := Lib.hid hbp
  have HX := Lib.hid hb
  have HT1 := Lib.hid t1o
  have q5 := neq_nil_nil
  have hmf := run_makeFn
  clear h hr hbp hb h0 t1o
  go_enter_defers Tryz.func59, Tryz.ntmps59
  (repeat (first | go_values | go_skip | go_guarded | go_step | go_upon))
  refine (wl_any HR.out).mono ?_
  rintro e w1 ⟨rfl, hr1, hk1⟩
  have h1 := H.out.locked HB.out hr1 hk1
  have hbx := (hk1.block w.heap.size (by omega)).trans HX.out
  have hc1 := box_cell hbx
  have hk01 := (Keeps.alloc (w := w) (fun j (hj : j < w.heap.size ∧ j ≠ gr) => hj.1) (boxO gr)).trans (hk1.mono fun j hj => hj.2)
  obtain ⟨c12, -, -, c15, -, c17, -, -, f17⟩ := hr1.cells
  rw [HB.out (by omega), ht] at c12
  have c12' : w1.cell? ⟨gr, 12, none⟩ = some (.pointer (some ⟨(S.L 1).b, 0, none⟩)) := c12
  rw [ht, show ((1 : Nat) : Int) = 1 from rfl] at c17
  have hl1 := h1.st.lv 0 (by omega)
  have e0 : w1.cell? ⟨(S.L 1).b, 0, none⟩ = some (.iface 68 (.pointer (some ⟨S.gm, 0, none⟩))) := hl1.cell1.1
  have hne : (S.L 1).b ≠ gr := fun e => by
    have := hl1.tb
    rw [e] at this
    omega
  have sz := rsz h1
  obtain ⟨n, hn⟩ : ∃ n, S.size 1 = n := ⟨_, rfl⟩
  rw [ht, hn] at sz
  have hn2 : n ≤ 299008 := by rw [← hn]; exact hl1.sz
  obtain ⟨r2, kk2, D⟩ := end_dump h1 ht
  have D0 : Calls Tryz.prog 71 #[.pointer (some ⟨(S.L 1).b, 0, none⟩), .iface 68 (.pointer (some ⟨S.gm, 0, none⟩))] (w1.setCell ⟨gr, 17, none⟩ (.int .i64 0)) _ := D
  have r20 : RollAt (w1.setCell ⟨gr, 17, none⟩ (.int .i64 0)) gr 1 (-1073741824) 0 S.gm gc 0 (some ⟨(S.L 1).b, 0, none⟩) := r2
  have hbx2 := (kk2.block w.heap.size (by omega)).trans hbx
  have HBX2 := Lib.hid hbx2
  have SZ := Lib.hid sz
  have HD := Lib.hid D0
  have H1 := Lib.hid h1
  have HR2 := Lib.hid r20
  have HK01 := Lib.hid hk01
  have KK2 := Lib.hid kk2
  have HT := Lib.hid ht
  have HN := Lib.hid hn
  have HL1 := Lib.hid hl1
  clear hr1 hk1 h1 hbx c12 hl1 sz D D0 r2 r20 hbx2 hk01 kk2 ht hn hc
  dsimp only
  (repeat (first | go_values | go_skip | go_guarded | go_step | go_upon))
  refine SZ.out.mono ?_
  rintro e w2 ⟨rfl, rfl⟩
  dsimp only
  (repeat (first | go_values | go_skip | go_guarded | go_step | go_upon))
  refine HD.out.mono ?_
  rintro e w3 ⟨W, tg3, S1, rfl, dp⟩
  have r3 := (dp.kp.block gr ⟨lt_of_heap HR2.out, by omega⟩).trans HR2.out
  have hbx3 := (dp.kp.block w.heap.size ⟨lt_of_heap HBX2.out, by omega⟩).trans HBX2.out
  have g0 := box_cell hbx3
  obtain ⟨d12, d13, -, -, -, d17, -, -, j17⟩ := RollAt.cells r3
  rw [show ((0 : Nat) : Int) = 0 from rfl] at d17
  obtain ⟨L', hl3, hlb, hls⟩ := dp.lv
  have hs3 := dp.kp.size
  have k13 : Keeps (fun j => j < w2.heap.size ∧ 0 + 1 < (tg1 j).1 ∧ j ≠ gr) w2 w3 := (KK2.out.mono fun j hj => hj.2.2).trans (dp.kp.mono fun j hj => ⟨Nat.lt_of_lt_of_le hj.1 KK2.out.size, hj.2.1⟩)
  rw [show (S.L 1).b = L'.b from hlb.symm] at r3
  have DP := Lib.hid dp
  have R3 := Lib.hid r3
  have HBX3 := Lib.hid hbx3
  have HL3 := Lib.hid hl3
  have K13 := Lib.hid k13
  clear HD dp r3 hbx3 hl3 k13 d12
  dsimp only
  by_cases hW : cntW W = 0
  · rw [hW, show ((0 : Nat) : Int) = 0 from rfl]
    (repeat (first | go_values | go_skip | go_guarded | go_step | go_upon))
    refine leaves_cons (f := 72) (args := #[.pointer (some ⟨w.heap.size, 0, none⟩)]) (by simp) (by simp [go_sem]) ?_
    refine (endD_any .returning HBX3.out R3.out HL3.out).mono ?_
    rintro e u' w4 ⟨rfl, rfl, r4, k4⟩
    refine leaves_cons (f := 68) (args := #[.pointer (some ⟨gr, 0, none⟩)]) (by simp [settle]) (by simp [go_sem]) ?_
    refine (wu_any .returning r4).mono ?_
    rintro e u' w5 ⟨rfl, rfl, r5, k5⟩
    have k35 : Keeps (fun j => j < w3.heap.size ∧ j ≠ gr) w3 w5 := k4.trans (k5.mono fun j hj => hj.2)
    have E : Ended 0 S S1 := DP.out.acc.ended0 DP.out.wd (DP.out.none HL1.out hW)
    have hg3 : tg3 gr = tg1 gr := DP.out.tags gr (lt_of_heap HR2.out)
    have hst : StIs tg3 w5 S1 := DP.out.st.kept (fun j h1 h2 => k35.block j ⟨h1, fun e => by subst e; rw [hg3, E.t] at h2; omega⟩) (fun _ _ _ => rfl)
    exact ⟨_, results_tmp rfl _ _ _, rfl, end_fin H1.out HT1.out HK01.out E hst (fun j hj => DP.out.tags j (Nat.lt_of_lt_of_le hj KK2.out.size)) r5 (fun h => by omega) (K13.out.trans (k35.mono fun j hj => ⟨by have := K13.out.size; omega, hj.2.2⟩)) (by omega)⟩
  · have hWi : ¬ (cntW W : Int) = 0 := by omega
    have hbc : w3.heap[gc]? = some (.cells #[.pointer (some ⟨S1.gm, 0, none⟩)] 68 (0, 0)) := by
      have := (K13.out.block gc ⟨lt_of_heap H1.out.box, by omega, hcg⟩).trans H1.out.box
      rw [DP.out.acc.gm]
      exact this
    have CK := Lib.hid (ck_any DP.out.st hbc hn2)
    have HW := Lib.hid hW
    clear hbc hW
    generalize (cntW W : Int) = z at *
    (repeat (first | go_values | go_skip | go_guarded | go_step | go_upon))
    refine CK.out.mono ?_
    rintro e w4 ⟨rfl, tg4, S2, pt, ht4, st4, k34⟩
    have PT := Lib.hid pt
    have T4 := Lib.hid ht4
    have ST4 := Lib.hid st4
    have K34 := Lib.hid k34
    clear CK pt ht4 st4 k34
    dsimp only
    (repeat (first | go_values | go_skip | go_guarded | go_step | go_upon))
    have hg3 : tg3 gr = tg1 gr := DP.out.tags gr (lt_of_heap HR2.out)
    have hx3 : tg3 w.heap.size = tg1 w.heap.size := DP.out.tags _ (lt_of_heap HBX2.out)
    have r3 := (K34.out.block gr ⟨lt_of_heap R3.out, by rw [hg3, tr1]; omega⟩).trans R3.out
    have b3 := (K34.out.block w.heap.size ⟨lt_of_heap HBX3.out, by rw [hx3, t1n]; omega⟩).trans HBX3.out
    have l3 := HL3.out.kept (tg' := tg4) (fun j h1 h2 => K34.out.block j ⟨h1, by omega⟩) (fun j h1 _ => T4.out j h1)
    refine leaves_cons (f := 72) (args := #[.pointer (some ⟨w.heap.size, 0, none⟩)]) (by simp) (by simp [go_sem]) ?_
    refine (endD_any .returning b3 r3 l3).mono ?_
    rintro e u' w5 ⟨rfl, rfl, r5, k5⟩
    refine leaves_cons (f := 68) (args := #[.pointer (some ⟨gr, 0, none⟩)]) (by simp [settle]) (by simp [go_sem]) ?_
    refine (wu_any .returning r5).mono ?_
    rintro e u' w6 ⟨rfl, rfl, r6, k6⟩
    have k46 : Keeps (fun j => j < w4.heap.size ∧ j ≠ gr) w4 w6 := k5.trans (k6.mono fun j hj => hj.2)
    have pt := PT.out
    rw [← HN.out] at pt
    have E : Ended 0 S S2 := DP.out.acc.ended DP.out.wd pt (.inl (DP.out.some HW.out))
    have hg4 : tg4 gr = tg3 gr := T4.out gr (lt_of_heap R3.out)
    have hst : StIs tg4 w6 S2 := ST4.out.kept (fun j h1 h2 => k46.block j ⟨h1, fun e => by subst e; rw [hg4, hg3, E.t] at h2; omega⟩) (fun _ _ _ => rfl)
    have s13 := K13.out.size
    have s34 := K34.out.size
    exact ⟨_, results_tmp rfl _ _ _, rfl, end_fin H1.out HT1.out HK01.out E hst (fun j hj => (T4.out j (by omega)).trans (DP.out.tags j (Nat.lt_of_lt_of_le hj KK2.out.size))) r6 (fun h => by omega) ((K13.out.trans (K34.out.mono fun j hj => ⟨by omega, by rw [DP.out.tags j (Nat.lt_of_lt_of_le hj.1 KK2.out.size)]; omega⟩)).trans (k46.mono fun j hj => ⟨by omega, hj.2.2⟩)) (by omega)⟩

end Go.Proofs.YtkkliejgmgmebaaGreatDoor

namespace Go.Proofs.YtkkliejgmgmebaaGreatDoor
open Go.RowKit

set_option maxRecDepth 100000 in
set_option maxHeartbeats 4000000 in
theorem rendB {tg : Nat → Nat × Nat} {w : World} {gr gc k : Nat} {S : St} {va vb : Addr} (h : RbIs 0 0 0 tg w gr gc S va vb) (ht : S.t = k + 2) :
    Calls Tryz.prog 59 #[.pointer (some ⟨gr, 0, none⟩)] w fun e w' => e = .returned .nilIface ∧ REnd tg w gr gc S (k + 1) va vb w' := by
  obtain ⟨tg1, t1o, t1n, h0⟩ := h.boxed
  obtain ⟨bp, hr, hbp⟩ := h0.roll
  have hgr := lt_of_heap (h.roll.choose_spec.1)
  have tt := h.st.tt
  have hb := box_at w gr
  have hc := box_cell hb
  have tr1 : (tg1 gr).1 = 900 := h0.tr
  have H := Lib.hid h0
  have HR := Lib.hid hr
  have HB := Lib.hid hbp
  have HX := Lib.hid hb
  have HT1 := Lib.hid t1o
  have q5 := neq_nil_nil
  have ta := as_bit
  have na := nil_ahead_tB ⟨(S.L (k + 1)).b, 0, none⟩
  have me := method_tB ⟨(S.L (k + 1)).b, 0, none⟩
  clear h hr hbp hb h0 t1o
  go_enter_defers Tryz.func59, Tryz.ntmps59
  (repeat (first | go_values | go_skip | go_guarded | go_step | go_upon))
  refine (wl_any HR.out).mono ?_
  rintro e w1 ⟨rfl, hr1, hk1⟩
  have h1 := H.out.locked HB.out hr1 hk1
  have hbx := (hk1.block w.heap.size (by omega)).trans HX.out
  have hc1 := box_cell hbx
  have hk01 := (Keeps.alloc (w := w) (fun j (hj : j < w.heap.size ∧ j ≠ gr) => hj.1) (boxO gr)).trans (hk1.mono fun j hj => hj.2)
  obtain ⟨c12, -, -, c15, -, c17, -, -, f17⟩ := hr1.cells
  rw [HB.out (by omega), ht] at c12
  have c12' : w1.cell? ⟨gr, 12, none⟩ = some (.pointer (some ⟨(S.L (k + 2)).b, 0, none⟩)) := c12
  have hl1 := h1.st.lv (k + 1) (by omega)
  have e0 : w1.cell? ⟨(S.L (k + 2)).b, 0, none⟩ = some (.iface 105 (.pointer (some ⟨(S.L (k + 1)).b, 0, none⟩))) := hl1.cell1.1
  have hne : (S.L (k + 2)).b ≠ gr := fun e => by
    have := hl1.tb
    rw [e] at this
    omega
  have sz := rsz h1
  obtain ⟨n, hn⟩ : ∃ n, S.size (k + 2) = n := ⟨_, rfl⟩
  rw [ht, hn] at sz
  have hn2 : n ≤ 299008 := by rw [← hn]; exact hl1.sz
  obtain ⟨r2, kk2, D⟩ := end_dump h1 ht
  have hki : ((k + 1 : Nat) : Int) = (S.t : Int) - 1 := by omega
  rw [hki] at r2 kk2 D
  have D0 : Calls Tryz.prog 71 #[.pointer (some ⟨(S.L (k + 2)).b, 0, none⟩), .iface 105 (.pointer (some ⟨(S.L (k + 1)).b, 0, none⟩))] (w1.setCell ⟨gr, 17, none⟩ (.int .i64 ((S.t : Int) - 1))) _ := D
  have hbx2 := (kk2.block w.heap.size (by omega)).trans hbx
  have z0 : ¬ (S.t : Int) = 0 := by omega
  have z1 : ¬ (S.t : Int) - 1 = 0 := by omega
  have z2 : -9223372036854775808 ≤ (S.t : Int) - 1 := by omega
  have z3 : (S.t : Int) - 1 ≤ 9223372036854775807 := by omega
  have HBX2 := Lib.hid hbx2
  have SZ := Lib.hid sz
  have HD := Lib.hid D0
  have H1 := Lib.hid h1
  have HR2 := Lib.hid r2
  have HK01 := Lib.hid hk01
  have KK2 := Lib.hid kk2
  have HT := Lib.hid ht
  have HN := Lib.hid hn
  have HL1 := Lib.hid hl1
  have TT := Lib.hid tt
  have HKI := Lib.hid hki
  clear hr1 hk1 h1 hbx c12 hl1 sz D D0 r2 hbx2 hk01 kk2 ht hn hc tt hki
  generalize (S.t : Int) = z at *
  dsimp only
  (repeat (first | go_values | go_skip | go_guarded | go_step | go_upon))
  refine SZ.out.mono ?_
  rintro e w2 ⟨rfl, rfl⟩
  dsimp only
  (repeat (first | go_values | go_skip | go_guarded | go_step | go_upon))
  refine HD.out.mono ?_
  rintro e w3 ⟨W, tg3, S1, rfl, dp⟩
  have kb : k ≤ 28 := by have := HT.out; have := TT.out; omega
  have r3 : RollAt w3 gr 1 (-1073741824) 0 S.gm gc (k + 1) (some ⟨(S.L (k + 2)).b, 0, none⟩) := (dp.kp.block gr ⟨lt_of_heap HR2.out, by omega⟩).trans HR2.out
  have hbx3 := (dp.kp.block w.heap.size ⟨lt_of_heap HBX2.out, by omega⟩).trans HBX2.out
  have g0 := box_cell hbx3
  obtain ⟨d12, -, -, -, -, d17, -, d12f, -⟩ := RollAt.cells r3
  rw [HKI.out] at d17
  obtain ⟨L', hl3, hlb, hls⟩ := dp.lv
  have hs3 := dp.kp.size
  have k13 : Keeps (fun j => j < w2.heap.size ∧ k + 1 + 1 < (tg1 j).1 ∧ j ≠ gr) w2 w3 := (KK2.out.mono fun j hj => hj.2.2).trans (dp.kp.mono fun j hj => ⟨Nat.lt_of_lt_of_le hj.1 KK2.out.size, hj.2.1⟩)
  have BF : Calls Tryz.prog 73 #[.pointer (some ⟨(S.L (k + 2)).b, 0, none⟩)] w3 (fun e w' => e = .returned (.tuple #[]) ∧ Keeps (Old w3) w3 w') := by
    have := bfree tg3 w3 _ _ L' hl3
    rw [hlb] at this
    exact this
  have HBF := Lib.hid BF
  have DP := Lib.hid dp
  have R3 := Lib.hid r3
  have HBX3 := Lib.hid hbx3
  have HL3 := Lib.hid hl3
  have K13 := Lib.hid k13
  have HLB := Lib.hid hlb
  have HLS := Lib.hid hls
  clear HD dp r3 hbx3 hl3 k13 hlb hls BF
  dsimp only
  (repeat (first | go_values | go_skip | go_guarded | go_step | go_upon))
  refine HBF.out.mono ?_
  rintro e w4 ⟨rfl, k4⟩
  have hs4 := k4.size
  have r4 := (k4.block gr (lt_of_heap R3.out)).trans R3.out
  have b4 := (k4.block w.heap.size (lt_of_heap HBX3.out)).trans HBX3.out
  have g4 := box_cell b4
  obtain ⟨i12, -, -, -, -, -, -, i12f, -⟩ := RollAt.cells r4
  have l4 := HL3.out.kept (w' := w4) (tg' := tg3) (fun j h1 h2 => k4.block j h1) (fun _ _ _ => rfl)
  have R4 := Lib.hid r4
  have L4 := Lib.hid l4
  have K4 := Lib.hid k4
  clear HBF r4 b4 l4 k4
  dsimp only
  (repeat (first | go_values | go_skip | go_guarded | go_step | go_upon))
  go_region
  have hg3 : (tg3 gr).1 = 900 := by rw [DP.out.tags gr (lt_of_heap HR2.out)]; exact tr1
  have r5 : RollAt (w4.setCell ⟨gr, 12, none⟩ (.pointer (some ⟨(S.L (k + 1)).b, 0, none⟩))).drew gr 1 (-1073741824) 0 S.gm gc (k + 1) (some ⟨(S.L (k + 1)).b, 0, none⟩) := heap_set_same R4.out 12 _
  have k5 : Keeps (fun j => j < w3.heap.size ∧ j ≠ gr) w3 (w4.setCell ⟨gr, 12, none⟩ (.pointer (some ⟨(S.L (k + 1)).b, 0, none⟩))).drew := ((K4.out.mono fun j hj => hj.1).trans (Keeps.setCell (a := ⟨gr, 12, none⟩) (fun hh => hh.2 rfl) _)).trans (Keeps.drew _ _)
  generalize (w4.setCell ⟨gr, 12, none⟩ (.pointer (some ⟨(S.L (k + 1)).b, 0, none⟩))).drew = w5 at *
  have l5 := HL3.out.kept (w' := w5) (tg' := tg3) (fun j h1 h2 => k5.block j ⟨h1, fun e => by subst e; omega⟩) (fun _ _ _ => rfl)
  have x5 := l5.cell1.2.2
  rw [HLB.out, HLS.out] at x5
  rw [show (S.L (k + 1 + 1)).size = n from HN.out] at x5
  have s5 : StIs tg3 w5 S1 := DP.out.st.kept (fun j h1 h2 => k5.block j ⟨h1, fun e => by subst e; have := DP.out.acc.t; have e2 : S1.t = k + 1 := this; omega⟩) (fun _ _ _ => rfl)
  have BS := Lib.hid (bsize_any w5 _ _ x5)
  have TR : Calls Tryz.prog 80 #[.pointer (some ⟨(S.L (k + 1)).b, 0, none⟩), .int .i64 (n : Int)] w5 (fun e w' => e = .returned .nilIface ∧ ∃ tg' S', TrPost tg3 w5 S1 (k + 1) n tg' S' w') := by
    have := btrunc tg3 w5 S1 k n s5 (by have := DP.out.acc.t; have e2 : S1.t = k + 1 := this; omega) hn2
    rw [DP.out.acc.b] at this
    exact this
  have HTR := Lib.hid TR
  have R5 := Lib.hid r5
  have K5 := Lib.hid k5
  clear l5 x5 s5 TR r5 k5
  (repeat (first | go_values | go_skip | go_guarded | go_step | go_upon))
  refine BS.out.mono ?_
  rintro e w6 ⟨rfl, rfl⟩
  dsimp only
  (repeat (first | go_values | go_skip | go_guarded | go_step | go_upon))
  refine HTR.out.mono ?_
  rintro e w7 ⟨rfl, tg7, S2, lost, t7, st7, k7⟩
  have LO := Lib.hid lost
  have T7 := Lib.hid t7
  have ST7 := Lib.hid st7
  have K7 := Lib.hid k7
  clear HTR lost t7 st7 k7
  dsimp only
  (repeat (first | go_values | go_skip | go_guarded | go_step | go_upon))
  have s57 := K5.out.size
  have r7 := (K7.out.block gr ⟨lt_of_heap R5.out, by omega⟩).trans R5.out
  refine leaves_cons (f := 68) (args := #[.pointer (some ⟨gr, 0, none⟩)]) (by simp) (by simp [go_sem]) ?_
  refine (wu_any .returning r7).mono ?_
  rintro e u' w8 ⟨rfl, rfl, r8, k8⟩
  have pt := LO.out.ptr
  rw [← HN.out] at pt
  have E : Ended (k + 1) S S2 := DP.out.acc.ended DP.out.wd pt (.inr (by omega))
  have hg7 : (tg7 gr).1 = 900 := by rw [T7.out gr (lt_of_heap R5.out)]; exact hg3
  have hst : StIs tg7 w8 S2 := ST7.out.kept (fun j h1 h2 => k8.block j (fun e => by subst e; rw [E.t] at h2; omega)) (fun _ _ _ => rfl)
  have s13 := K13.out.size
  refine ⟨_, results_tmp rfl _ _ _, rfl, end_fin H1.out HT1.out HK01.out E hst (fun j hj => (T7.out j (by omega)).trans (DP.out.tags j (Nat.lt_of_lt_of_le hj KK2.out.size))) r8 (fun _ => ?_) (((K13.out.trans (K5.out.mono fun j hj => ⟨by omega, hj.2.2⟩)).trans (K7.out.mono fun j hj => ⟨by omega, ?_⟩)).trans (k8.mono fun j hj => hj.2.2)) (by omega)⟩
  · show some (⟨(S.L (k + 1)).b, 0, none⟩ : Addr) = some ⟨(S2.L (k + 1)).b, 0, none⟩
    rw [E.b]
  · rw [DP.out.tags j (Nat.lt_of_lt_of_le hj.1 KK2.out.size)]
    omega

end Go.Proofs.YtkkliejgmgmebaaGreatDoor

namespace Go.Proofs.YtkkliejgmgmebaaGreatDoor
open Go.RowKit

/-- all new blocks are buffers -/
theorem RbIs.fresh {m r r2 : Int} {tg : Nat → Nat × Nat} {w w' : World} {gr gc : Nat} {S : St} {va vb : Addr} (h : RbIs m r r2 tg w gr gc S va vb) (hk : Keeps (Old w) w w') :
    ∃ tg' : Nat → Nat × Nat, (∀ j, j < w.heap.size → tg' j = tg j) ∧ (∀ j, w.heap.size ≤ j → tg' j = (500, 0)) ∧ RbIs m r r2 tg' w' gr gc S va vb :=
  ⟨fun j => if j < w.heap.size then tg j else (500, 0), fun j hj => if_pos hj, fun j hj => if_neg (by omega),
    h.step (h.st.kept (fun j hj _ => hk.block j hj) (fun j hj _ => if_pos hj)) (fun j hj => if_pos hj) (hk.mono fun j hj => hj.1) rfl rfl rfl⟩

/-- level t was written -/
structure Written (S S' : St) (off : Nat) (xs : List UInt8) : Prop where
  upd : Upd S.t S S'
  size : (S'.L S.t).size = max (S.L S.t).size (off + xs.length)
  raw : ∀ i, S'.raw S.t i = if off ≤ i ∧ i < off + xs.length then xs.getD (i - off) 0 else S.raw S.t i
  dirty : ∀ p, S'.dirty S.t p = true ↔ (S.dirty S.t p = true ∨ ∃ i, off ≤ i ∧ i < off + xs.length ∧ i / 4096 = p)

/-- what a call does, and its result -/
structure SStep (S : St) (kind off size : Int) (xs : List UInt8) (r : Res) (S' : St) : Prop where
  perm : (kind = 0 ∨ kind = 2 ∨ kind = 6 ∨ kind = 7) → S.t = 0 → r.err = 2 ∧ S' = S
  wr : kind = 0 → 0 < S.t → r.err = 0 ∧ Written S S' off.toNat xs
  rd : kind = 1 → ∃ d, d = min (S.size S.t - off.toNat) size.toNat ∧ r.n = d ∧ r.d = S.rd S.t off.toNat d ∧ (r.err = 0 ∨ r.err = 1) ∧ Loads S.t S S'
  tr : kind = 2 → 0 < S.t → r.err = 0 ∧ Lost S.t S S' size.toNat
  sz : kind = 4 → r.err = 0 ∧ r.sz = S.size S.t ∧ S' = S
  bg : kind = 5 → r.err = 0 ∧ ∃ b m, S' = S.push b m
  en : kind = 6 → 0 < S.t → r.err = 0 ∧ Ended (S.t - 1) S S'
  rb : kind = 7 → 0 < S.t → r.err = 0 ∧ S' = S.pop (S.t - 1)

/-- what impl.call leaves -/
def CallR (tg : Nat → Nat × Nat) (w : World) (gr gc : Nat) (va vb : Addr) (R : Res → St → Prop) (e : Ending) (w' : World) : Prop :=
  ∃ (X : Nat → Prop) (rv : Value) (r : Res) (tg' : Nat → Nat × Nat) (S' : St), e = .returned rv ∧ (Inw X w' ∧ ∀ k, X k → w.heap.size ≤ k ∧ (tg' k).1 = 500) ∧ ResV X w' rv r ∧ R r S' ∧ RbIs 0 0 0 tg' w' gr gc S' va vb ∧ (∀ j, j < w.heap.size → tg' j = tg j) ∧ Keeps (OutR tg w gr) w w'

theorem callR_end0 {tg tg1 tg3 : Nat → Nat × Nat} {w W2 w3 W' : World} {gr gc : Nat} {va vb : Addr} {S' : St} {X : Nat → Prop} {rv : Value} {r : Res} {R : Res → St → Prop} (hW : Keeps (Old w) w W2) (hs : w.heap.size + 2 ≤ W2.heap.size) (t1o : ∀ j, j < w.heap.size → tg1 j = tg j) (t1n : ∀ j, w.heap.size ≤ j → tg1 j = (500, 0))
    (h3 : RbIs 0 0 0 tg3 w3 gr gc S' va vb) (t3 : ∀ j, j < W2.heap.size → tg3 j = tg1 j) (k3 : Keeps (fun j => OutR tg1 W2 gr j ∧ j < w.heap.size) W2 w3) (hX : ∀ k, X k → w.heap.size ≤ k ∧ k < W2.heap.size) (kw : Keeps (fun k => k ≠ w.heap.size + 1) w3 W') (hr : ResV X W' rv r) (hR : R r S') : CallR tg w gr gc va vb R (.returned rv) W' := by
  have tt := h3.st.tt
  have hb : tg3 (w.heap.size + 1) = (500, 0) := (t3 _ (by omega)).trans (t1n _ (by omega))
  have s3 := k3.size
  have sw := kw.size
  have hs0 := hW.size
  refine ⟨X, rv, r, tg3, S', rfl, ⟨fun k hk => by have := (hX k hk).2; omega, fun k hk => ⟨(hX k hk).1, by rw [t3 k (hX k hk).2, t1n k (hX k hk).1]⟩⟩, hr, hR, ?_, fun j hj => (t3 j (by omega)).trans (t1o j hj), ?_⟩
  · refine h3.step (h3.st.kept (fun j _ h2 => kw.block j fun e => ?_) (fun _ _ _ => rfl)) (fun _ _ => rfl) (kw.mono fun j hj e => ?_) rfl rfl rfl
    · subst e
      rw [hb] at h2
      have h5 : 500 ≤ S'.t := h2
      omega
    · subst e
      have h5 := hj.2
      rw [hb] at h5
      have h6 : 900 ≤ 500 := h5
      omega
  · exact ((hW.mono fun j hj => hj.1).trans (k3.mono fun j hj => ⟨⟨by have := hj.1; omega, by rw [t1o j hj.1]; exact hj.2.1, hj.2.2⟩, hj.1⟩)).trans (kw.mono fun j hj => by have := hj.1; omega)

theorem callR_end {tg tg1 tg3 : Nat → Nat × Nat} {w W2 w3 W' : World} {gr gc : Nat} {va vb : Addr} {S' : St} {X : Nat → Prop} {rv : Value} {r : Res} {R : Res → St → Prop} (hW : Keeps (Old w) w W2) (hs : w.heap.size + 2 ≤ W2.heap.size) (t1o : ∀ j, j < w.heap.size → tg1 j = tg j) (t1n : ∀ j, w.heap.size ≤ j → tg1 j = (500, 0))
    (h3 : RbIs 0 0 0 tg3 w3 gr gc S' va vb) (t3 : ∀ j, j < W2.heap.size → tg3 j = tg1 j) (k3 : Keeps (OutR tg1 W2 gr) W2 w3) (hX : ∀ k, X k → w.heap.size ≤ k ∧ k < W2.heap.size) (kw : Keeps (fun k => k ≠ w.heap.size + 1) w3 W') (hr : ResV X W' rv r) (hR : R r S') : CallR tg w gr gc va vb R (.returned rv) W' :=
  callR_end0 hW hs t1o t1n h3 t3 (k3.mono fun _ hj => hj.1) hX kw hr hR

set_option maxRecDepth 100000 in
theorem kind_perm2 (Pr : Nat → Prop) (w : World) (a b p : Addr) (h : Vars Pr w a b) : Calls Tryz.prog 34 #[.iface 109 (.pointer (some p))] w fun e w' => e = .returned (.int .i64 2) ∧ w' = w := by
  have e0 := h.e0
  have e1 := h.e1
  have q := eql_perm
  have zr : Calls Tryz.prog 36 #[.iface 109 (.pointer (some p))] w fun e w' => e = .returned (.bool false) ∧ w' = w := by
    clear h
    go_enter Tryz.func36, Tryz.ntmps36
    (repeat (first | go_values | go_skip | go_guarded | go_step | go_upon))
    go_ret
    exact ⟨rfl, rfl⟩
  have ZR := Lib.hid zr
  have ta := ta_perm
  clear h zr
  go_enter Tryz.func34, Tryz.ntmps34
  (repeat (first | go_values | go_skip | go_guarded | go_step | go_upon))
  refine ZR.out.mono ?_
  rintro e w' ⟨rfl, rfl⟩
  dsimp only
  (repeat (first | go_values | go_skip | go_guarded | go_step | go_upon))
  go_ret
  exact ⟨rfl, rfl⟩

end Go.Proofs.YtkkliejgmgmebaaGreatDoor
