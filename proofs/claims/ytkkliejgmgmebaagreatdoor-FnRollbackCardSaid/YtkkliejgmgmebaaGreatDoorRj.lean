/-
  A level (or the file) is truncated; the stack without its top.
-/
import Derived.Test.YtkkliejgmgmebaaGreatDoorRi
namespace Go.Proofs.YtkkliejgmgmebaaGreatDoor
open Go.RowKit

/-- level k was truncated -/
structure PTr (k : Nat) (S S' : St) (n : Nat) : Prop where
  gm : S'.gm = S.gm
  gz : S'.gz = S.gz
  t : S'.t = S.t
  up : ∀ j, k < j → S'.L j = S.L j
  b : ∀ j, (S'.L j).b = (S.L j).b
  fb : 0 < k → S'.fb = S.fb
  sz : ∀ j, 0 < j → j ≠ k → (S'.L j).size = (S.L j).size
  size : S'.size k = n
  rawlo : ∀ j i, j < k → S'.raw j i = S.raw j i
  rawin : ∀ i, i < n → S'.raw k i = S.raw k i
  rawout : ∀ i, n ≤ i → S'.raw k i = S.raw k i ∨ S'.raw k i = 0 ∨ (0 < k ∧ S'.raw k i = S.raw (k - 1) i)
  dirtyo : ∀ j q, 0 < j → j ≠ k → S'.dirty j q = S.dirty j q
  dirtyin : 0 < k → ∀ p, p * 4096 < n → S'.dirty k p = S.dirty k p

theorem resB_length (bs : List UInt8) (n : Nat) : (resB bs n).length = n := by
  unfold resB
  rw [List.length_append, List.length_take, List.length_replicate]
  omega

theorem resB_getD (bs : List UInt8) (n i : Nat) : (resB bs n).getD i 0 = if i < n then bs.getD i 0 else 0 := by
  unfold resB
  simp only [List.getD_eq_getElem?_getD, List.getElem?_append, List.length_take, List.getElem?_take, List.getElem?_replicate]
  by_cases h1 : i < n
  · rw [if_pos h1, if_pos h1]
    by_cases h2 : i < bs.length
    · rw [if_pos (by omega)]
    · rw [if_neg (by omega), if_pos (by omega), List.getElem?_eq_none (by omega)]; rfl
  · rw [if_neg h1]
    by_cases h2 : i < min n bs.length
    · omega
    · rw [if_neg h2, if_neg (by omega), if_neg h1]; rfl

/-- what the truncation of a level leaves -/
def PTrPost (tg : Nat → Nat × Nat) (w : World) (S : St) (k n : Nat) (w' : World) : Prop :=
  ∃ tg' S', PTr k S S' n ∧ (∀ j, j < w.heap.size → tg' j = tg j) ∧ StIs tg' w' S' ∧ Keeps (fun j => j < w.heap.size ∧ k < (tg j).1) w w'

theorem ftrunc (tg : Nat → Nat × Nat) (w : World) (S : St) (n : Nat) (hS : StIs tg w S) (hn : n ≤ 299008) :
    Calls Tryz.prog 30 #[.pointer (some ⟨S.gm, 0, none⟩), .int .i64 (n : Int)] w fun e w' => e = .returned .nilIface ∧ PTrPost tg w S 0 n w' := by
  have hm := hS.mem
  obtain ⟨nest, -, -, hgm⟩ := hm.fm
  have hgl := lt_of_heap hgm
  have hm1 : MemIs (fun j => j < w.heap.size ∧ 0 < (tg j).1) w S.gm S.gz S.v S.fb := hm.widen fun j _ h1 h2 => h1 (by omega)
  have hz := hm1.zis2
  have hw := ztrunc_any (fun j => (j < w.heap.size ∧ 0 < (tg j).1) ∨ j = S.gm) w S.gz S.v S.fb n (fun j hj => hj.elim (fun h => h.1) (fun e => by omega)) hz (by omega)
  refine mtrunc_of w S.gm S.gz _ (fun w' => PTrPost tg w S 0 n w') hm.c0 (hw.mono ?_)
  rintro e w' ⟨rfl, v', hz', hk'⟩
  refine ⟨rfl, ?_⟩
  obtain ⟨tg', hto, htn⟩ : ∃ tg' : Nat → Nat × Nat, (∀ j, j < w.heap.size → tg' j = tg j) ∧ ∀ j, ¬ j < w.heap.size → tg' j = (0, 0) := ⟨fun j => if j < w.heap.size then tg j else (0, 0), fun j h => if_pos h, fun j h => if_neg h⟩
  have hzz : ZIs (fun j => (tg' j).1 ≠ 0) w' S.gz v' (resB S.fb n) := hz'.widen fun j _ h1 h2 => by
    by_cases hj : j < w.heap.size
    · rw [hto j hj] at h2
      exact h1 (.inl ⟨hj, by omega⟩)
    · rw [htn j hj] at h2
      exact h2 rfl
  have hmm0 : MemIs (fun j => (tg' j).1 ≠ 0) w S.gm S.gz S.v S.fb := hm.retag (fun _ _ _ => rfl) (fun j h _ => hto j h)
  have hmf := hmm0.of_zis hzz (hk'.block S.gm (.inr rfl))
  refine ⟨tg', { S with v := v', fb := resB S.fb n }, ⟨rfl, rfl, rfl, fun _ _ => rfl, fun _ => rfl, fun h => by omega, fun _ _ _ => rfl, resB_length _ _, fun j i hj => by omega, fun i hi => ?_, fun i hi => ?_, fun _ _ _ _ => rfl, fun h => by omega⟩, hto, ⟨hmf, fun j hj => ?_, ?_, hS.tt, hS.pl⟩, hk'.mono fun j hj => .inl hj⟩
  · show (resB S.fb n).getD i 0 = S.fb.getD i 0
    rw [resB_getD, if_pos hi]
  · refine .inr (.inl ?_)
    show (resB S.fb n).getD i 0 = 0
    rw [resB_getD, if_neg (by omega)]
  · have hpar : St.par { S with v := v', fb := resB S.fb n } j = S.par j := by cases j <;> rfl
    rw [hpar]
    exact (hS.lv j hj).kept (fun i h1 h2 => hk'.block i (.inl ⟨h1, by omega⟩)) (fun i h1 _ => hto i h1)
  · show (resB S.fb n).length ≤ 299008
    rw [resB_length]; exact hn

theorem Upd.size_lo {K : Nat} {S S' : St} (h : Upd K S S') {j : Nat} (hj : j < K) : S'.size j = S.size j := by
  cases j with
  | zero => show S'.fb.length = _; rw [h.fb]; rfl
  | succ j => exact h.sz (j + 1) (by omega)

theorem Lost.ptr {k n : Nat} {S S' : St} (h : Lost (k + 1) S S' n) : PTr (k + 1) S S' n := by
  have e : ∀ i, S'.raw (k + 1) i = (match (S'.L (k + 1)).f (i / 4096) with
    | some x => x.bs.getD (i % 4096) 0
    | none => if i < S.size k then S.raw k i else 0) := fun i => by
    show (match (S'.L (k + 1)).f (i / 4096) with | some x => x.bs.getD (i % 4096) 0 | none => if i < S'.size k then S'.raw k i else 0) = _
    rw [h.upd.size_lo (Nat.lt_succ_self k), h.upd.raw k i (Nat.lt_succ_self k)]
  refine ⟨h.upd.gm, h.upd.gz, h.upd.t, h.upd.up, h.upd.b, fun _ => h.upd.fb, fun j _ hj => h.upd.sz j hj, h.size, h.upd.raw, fun i hi => ?_, fun i _ => ?_, fun j q _ hj => h.upd.dirty j q hj, fun _ p hp => ?_⟩
  · rw [e, h.all (i / 4096) (by omega)]
    rfl
  · rw [e]
    rcases h.some' (i / 4096) with h1 | h1
    · rw [h1]
      exact .inl rfl
    · rw [h1]
      dsimp only
      split
      · exact .inr (.inr ⟨by omega, rfl⟩)
      · exact .inr (.inl rfl)
  · unfold St.dirty
    rw [h.all p hp]

/-- the stack with k levels -/
def St.pop (S : St) (k : Nat) : St := { S with t := k }
theorem St.pop_raw (S : St) (k : Nat) : ∀ j i, (S.pop k).raw j i = S.raw j i
  | 0, _ => rfl
  | j + 1, i => by
    have e : (S.pop k).size j = S.size j := by cases j <;> rfl
    show (match (S.L (j + 1)).f (i / 4096) with | some x => x.bs.getD (i % 4096) 0 | none => if i < (S.pop k).size j then (S.pop k).raw j i else 0) = _
    rw [e, St.pop_raw S k j i]
    rfl
theorem St.pop_size (S : St) (k j : Nat) : (S.pop k).size j = S.size j := by cases j <;> rfl
theorem St.pop_par (S : St) (k j : Nat) : (S.pop k).par j = S.par j := by cases j <;> rfl
theorem St.pop_ptr (S : St) (k j : Nat) : (S.pop k).ptr j = S.ptr j := by cases j <;> rfl
theorem St.pop_dirty (S : St) (k j p : Nat) : (S.pop k).dirty j p = S.dirty j p := rfl

theorem StIs.pop {tg : Nat → Nat × Nat} {w : World} {S : St} (h : StIs tg w S) {k : Nat} (hk : k ≤ S.t) : StIs tg w (S.pop k) := by
  have tt := h.tt
  refine ⟨h.mem, fun j (hj : j < k) => ?_, h.fb, by show k ≤ 30; omega, fun j (hj : j < k) => h.pl j (by omega)⟩
  rw [St.pop_par]
  exact h.lv j (by omega)

/-- the top level has gone into the one beneath -/
structure Ended (k : Nat) (S S' : St) : Prop where
  gm : S'.gm = S.gm
  gz : S'.gz = S.gz
  t : S'.t = k
  b : ∀ j, (S'.L j).b = (S.L j).b
  fb : 0 < k → S'.fb = S.fb
  sz : ∀ j, 0 < j → j ≠ k → (S'.L j).size = (S.L j).size
  size : ((∃ p, S.dirty (k + 1) p = true) ∨ 0 < k) → S'.size k = S.size (k + 1)
  same : (∀ p, S.dirty (k + 1) p = false) → k = 0 → S'.fb = S.fb
  rawlo : ∀ j i, j < k → S'.raw j i = S.raw j i
  rawin : ∀ i, i < S.size (k + 1) → S'.raw k i = if S.dirty (k + 1) (i / 4096) = true then S.raw (k + 1) i else S.raw k i
  rawout : ∀ i, S.size (k + 1) ≤ i → S'.raw k i = S.raw (k + 1) i ∨ S'.raw k i = S.raw k i ∨ S'.raw k i = 0 ∨ (0 < k ∧ S'.raw k i = S.raw (k - 1) i)
  dirtyo : ∀ j q, 0 < j → j ≠ k → S'.dirty j q = S.dirty j q
  dirtyin : 0 < k → ∀ p, p * 4096 < S.size (k + 1) → (S'.dirty k p = true ↔ (S.dirty k p = true ∨ S.dirty (k + 1) p = true))

theorem dirty_iff (S : St) (k p : Nat) : S.dirty k p = true ↔ ∃ x, (S.L k).f p = some x ∧ x.dirty = true := by
  unfold St.dirty
  cases h : (S.L k).f p with
  | none => simp
  | some x => simp

/-- what was written, as the level saw it -/
theorem dump_raw {k : Nat} {S S1 : St} {W : Nat → Bool} (h : PAcc k (S.pop k) S1 (S.L (k + 1)) W) (hw : ∀ p, W p = true ↔ ∃ x, (S.L (k + 1)).f p = some x ∧ x.dirty = true) (i : Nat) : S1.raw k i = if S.dirty (k + 1) (i / 4096) = true then S.raw (k + 1) i else S.raw k i := by
  rw [h.raw, St.pop_raw]
  have e : W (i / 4096) = true ↔ S.dirty (k + 1) (i / 4096) = true := (hw _).trans (dirty_iff S (k + 1) _).symm
  by_cases hd : S.dirty (k + 1) (i / 4096) = true
  · rw [if_pos hd, if_pos (e.2 hd)]
    obtain ⟨x, hx, -⟩ := (dirty_iff S (k + 1) _).1 hd
    show _ = (match (S.L (k + 1)).f (i / 4096) with | some x => x.bs.getD (i % 4096) 0 | none => if i < S.size k then S.raw k i else 0)
    unfold Lv.byte
    rw [hx]
  · rw [if_neg hd, if_neg fun h => hd (e.1 h)]

theorem PAcc.ended {k : Nat} {S S1 S2 : St} {W : Nat → Bool} (h : PAcc k (S.pop k) S1 (S.L (k + 1)) W) (hw : ∀ p, W p = true ↔ ∃ x, (S.L (k + 1)).f p = some x ∧ x.dirty = true) (h2 : PTr k S1 S2 (S.size (k + 1))) (hd : (∃ p, S.dirty (k + 1) p = true) ∨ 0 < k) : Ended k S S2 := by
  have e : ∀ p, W p = true ↔ S.dirty (k + 1) p = true := fun p => (hw p).trans (dirty_iff S (k + 1) p).symm
  refine ⟨h2.gm.trans h.gm, h2.gz.trans h.gz, h2.t.trans h.t, fun j => (h2.b j).trans (h.b j), fun hk => (h2.fb hk).trans (h.fb hk), fun j h3 h4 => (h2.sz j h3 h4).trans (h.sz j h3 h4), fun _ => h2.size, fun hn hk => ?_, fun j i hj => (h2.rawlo j i hj).trans ((h.rawlo j i hj).trans (St.pop_raw S k j i)), fun i hi => (h2.rawin i hi).trans (dump_raw h hw i), fun i hi => ?_, fun j q h3 h4 => (h2.dirtyo j q h3 h4).trans (h.dirtyo j q h3 h4), fun hk p hp => ?_⟩
  · rcases hd with ⟨p, hp⟩ | hd
    · rw [hn p] at hp; cases hp
    · omega
  · rcases h2.rawout i hi with h3 | h3 | ⟨h4, h3⟩
    · rw [dump_raw h hw] at h3
      split at h3
      · exact .inl h3
      · exact .inr (.inl h3)
    · exact .inr (.inr (.inl h3))
    · rw [h.rawlo (k - 1) i (by omega), St.pop_raw] at h3
      exact .inr (.inr (.inr ⟨h4, h3⟩))
  · rw [h2.dirtyin hk p hp, h.dirty hk, e p]
    rfl

theorem PAcc.ended0 {S S1 : St} {W : Nat → Bool} (h : PAcc 0 (S.pop 0) S1 (S.L 1) W) (hw : ∀ p, W p = true ↔ ∃ x, (S.L 1).f p = some x ∧ x.dirty = true) (hn : ∀ p, W p = false) : Ended 0 S S1 := by
  have e : ∀ p, W p = true ↔ S.dirty 1 p = true := fun p => (hw p).trans (dirty_iff S 1 p).symm
  have hd : ∀ p, ¬ S.dirty 1 p = true := fun p hp => by have := (e p).2 hp; rw [hn p] at this; cases this
  refine ⟨h.gm, h.gz, h.t, h.b, fun hk => by omega, fun j h3 h4 => h.sz j h3 h4, fun hh => ?_, fun _ _ => h.same hn, fun j i hj => by omega, fun i _ => dump_raw h hw i, fun i _ => .inr (.inl ?_), fun j q h3 h4 => h.dirtyo j q h3 h4, fun hk => by omega⟩
  · rcases hh with ⟨p, hp⟩ | hh
    · exact absurd hp (hd p)
    · omega
  · rw [dump_raw h hw, if_neg (hd _)]

end Go.Proofs.YtkkliejgmgmebaaGreatDoor

namespace Go.Proofs.YtkkliejgmgmebaaGreatDoor
open Go.RowKit

/-- the receiver in a box of its own -/
abbrev boxO (gr : Nat) : Obj := .cells #[.pointer (some ⟨gr, 0, none⟩)] 57

theorem box_at (w : World) (gr : Nat) : (w.alloc (boxO gr)).heap[w.heap.size]? = some (boxO gr) := heap_alloc_at w _ rfl
theorem box_cell {w : World} {b gr : Nat} (h : w.heap[b]? = some (boxO gr)) : w.cell? ⟨b, 0, none⟩ = some (.pointer (some ⟨gr, 0, none⟩)) := (cells_at h).1 0

set_option maxRecDepth 100000 in
theorem rroll0 {tg : Nat → Nat × Nat} {w : World} {gr gc : Nat} {S : St} {va vb : Addr} (h : RbIs 0 0 0 tg w gr gc S va vb) (ht : S.t = 0) :
    Calls Tryz.prog 63 #[.pointer (some ⟨gr, 0, none⟩)] w fun e w' => ∃ p, e = .returned (.iface 109 (.pointer (some p))) ∧ NotLet tg w gr gc S va vb w' := by
  obtain ⟨bp, hr, hbp⟩ := (h.alloc (boxO gr)).roll
  have hgr := lt_of_heap (h.roll.choose_spec.1)
  have hb := box_at w gr
  have hc := box_cell hb
  have H := Lib.hid (h.alloc (boxO gr))
  have HR := Lib.hid hr
  have HB := Lib.hid hbp
  have HT := Lib.hid ht
  have HX := Lib.hid hb
  have na := nil_ahead_nM ⟨S.gm, 0, none⟩
  have me := method_nM ⟨S.gm, 0, none⟩
  clear h hr hbp ht hb
  go_enter_defers Tryz.func63, Tryz.ntmps63
  (repeat (first | go_values | go_skip | go_guarded | go_step | go_upon))
  refine (wl_any HR.out).mono ?_
  rintro e w1 ⟨rfl, hr1, hk1⟩
  obtain ⟨-, -, c14, -, -, c17, -⟩ := hr1.cells
  rw [HT.out, show ((0 : Nat) : Int) = 0 from rfl] at c17
  have hc1 := box_cell ((hk1.block w.heap.size (by omega)).trans HX.out)
  have H1 := Lib.hid (H.out.locked HB.out hr1 hk1)
  have HK1 := Lib.hid ((Keeps.alloc (w := w) (fun j (hj : j < w.heap.size ∧ j ≠ gr) => hj.1) (boxO gr)).trans (hk1.mono fun j hj => hj.2))
  clear hr1 hk1 hc
  dsimp only
  (repeat (first | go_values | go_skip | go_guarded | go_step | go_upon))
  refine (mname_any _ _).mono ?_
  rintro e w2 ⟨⟨s, rfl, hs⟩, rfl⟩
  dsimp only
  (repeat (first | go_values | go_skip | go_guarded | go_step | go_upon))
  refine leaves_cons (f := 68) (args := #[.pointer (some ⟨gr, 0, none⟩)]) (by simp) (by simp [go_sem]) ?_
  obtain ⟨bp', hr', hb'⟩ := (H1.out.alloc _).roll
  refine (wu_any .returning hr').mono ?_
  rintro e u' w3 ⟨rfl, rfl, hr3, hk3⟩
  exact ⟨_, results_tmp rfl _ _ _, _, rfl, (H1.out.alloc _).locked hb' hr3 hk3, (HK1.out.trans (Keeps.alloc (fun j hj => Nat.lt_of_lt_of_le hj.1 HK1.out.size) _)).trans (hk3.mono fun j hj => hj.2)⟩

theorem as_bit (w : World) (p : Value) : (Instr.typeAssert (.iface 105 p) 66 105 false).run Tryz.prog w = .ok p w := by kernel_rfl
theorem neq_fn_nil (w : World) : (binOp .neq 84 .nilFunc .nilFunc).run Tryz.prog w = .ok (.bool false) w := by kernel_rfl

/-- what the loss of the top level leaves -/
def RPop (tg : Nat → Nat × Nat) (w : World) (gr gc : Nat) (S : St) (va vb : Addr) (w' : World) : Prop := RbIs 0 0 0 tg w' gr gc (S.pop (S.t - 1)) va vb ∧ Keeps (fun j => j < w.heap.size ∧ j ≠ gr) w w'

set_option maxRecDepth 100000 in
set_option maxHeartbeats 4000000 in
theorem rroll1 {tg : Nat → Nat × Nat} {w : World} {gr gc : Nat} {S : St} {va vb : Addr} (h : RbIs 0 0 0 tg w gr gc S va vb) (ht : 0 < S.t) :
    Calls Tryz.prog 63 #[.pointer (some ⟨gr, 0, none⟩)] w fun e w' => e = .returned .nilIface ∧ RPop tg w gr gc S va vb w' := by
  obtain ⟨bp, hr, hbp⟩ := (h.alloc (boxO gr)).roll
  have hgr := lt_of_heap (h.roll.choose_spec.1)
  have hb := box_at w gr
  have hc := box_cell hb
  have tr := h.tr
  have tt := h.st.tt
  have hbp' := hbp ht
  have H := Lib.hid (h.alloc (boxO gr))
  have HR := Lib.hid hr
  have HB := Lib.hid hbp
  have HX := Lib.hid hb
  have HT := Lib.hid ht
  have q5 := neq_fn_nil
  clear h hr hbp hb
  go_enter_defers Tryz.func63, Tryz.ntmps63
  (repeat (first | go_values | go_skip | go_guarded | go_step | go_upon))
  refine (wl_any HR.out).mono ?_
  rintro e w1 ⟨rfl, hr1, hk1⟩
  obtain ⟨c12, -, -, -, c16, c17, -, f12, f17⟩ := hr1.cells
  have hbx := (hk1.block w.heap.size (by omega)).trans HX.out
  have hc1 := box_cell hbx
  have h1 := H.out.locked HB.out hr1 hk1
  have hk01 := (Keeps.alloc (w := w) (fun j (hj : j < w.heap.size ∧ j ≠ gr) => hj.1) (boxO gr)).trans (hk1.mono fun j hj => hj.2)
  have H1 := Lib.hid h1
  have HR1 := Lib.hid hr1
  have HBX := Lib.hid hbx
  have HK1 := Lib.hid hk01
  have fin : ∀ (w2 : World) (bp2 : Option Addr), Keeps (fun j => j < w1.heap.size ∧ j ≠ gr) w1 w2 → RollAt w2 gr 1 (-1073741824) 0 S.gm gc S.t bp2 → (1 < S.t → bp2 = some (S.ptr (S.t - 1))) →
      RbIs 1 (-1073741824) 0 tg (w2.setCell ⟨gr, 17, none⟩ (.int .i64 ((S.t - 1 : Nat) : Int))) gr gc (S.pop (S.t - 1)) va vb ∧ Keeps (fun j => j < w.heap.size ∧ j ≠ gr) w (w2.setCell ⟨gr, 17, none⟩ (.int .i64 ((S.t - 1 : Nat) : Int))) ∧
      (w2.setCell ⟨gr, 17, none⟩ (.int .i64 ((S.t - 1 : Nat) : Int))).cell? ⟨gr, 16, none⟩ = some .nilFunc ∧ (w2.setCell ⟨gr, 17, none⟩ (.int .i64 ((S.t - 1 : Nat) : Int))).cell? ⟨w.heap.size, 0, none⟩ = some (.pointer (some ⟨gr, 0, none⟩)) := by
    intro w2 bp2 hk2 hr2 hp
    have hr3 : RollAt (w2.setCell ⟨gr, 17, none⟩ (.int .i64 ((S.t - 1 : Nat) : Int))) gr 1 (-1073741824) 0 S.gm gc (S.t - 1) bp2 := heap_set_same hr2 17 _
    have hk3 : Keeps (fun j => j < w1.heap.size ∧ j ≠ gr) w1 (w2.setCell ⟨gr, 17, none⟩ (.int .i64 ((S.t - 1 : Nat) : Int))) := hk2.trans (Keeps.setCell (a := ⟨gr, 17, none⟩) (fun hh => hh.2 rfl) _)
    have hst : StIs tg (w2.setCell ⟨gr, 17, none⟩ (.int .i64 ((S.t - 1 : Nat) : Int))) (S.pop (S.t - 1)) := (h1.st.kept (fun j h1 h2 => hk3.block j ⟨h1, fun e => by subst e; omega⟩) (fun _ _ _ => rfl)).pop (by omega)
    refine ⟨h1.renew hst (fun _ _ => rfl) (hk3.mono fun j hj => ⟨hj.1, hj.2.2⟩) rfl hr3 fun hp0 => ?_, hk01.trans (hk3.mono fun j hj => ⟨Nat.lt_of_lt_of_le hj.1 hk01.size, hj.2⟩), hr3.cells.2.2.2.2.1, box_cell ((hk3.block w.heap.size ⟨lt_of_heap hbx, by omega⟩).trans hbx)⟩
    have hp1 : 0 < S.t - 1 := hp0
    rw [hp (by omega)]
    show some (S.ptr (S.t - 1)) = some ((S.pop (S.t - 1)).ptr (S.t - 1))
    rw [St.pop_ptr]
  have FIN := Lib.hid fin
  clear hr1 hk1 hbx h1 hk01 hc fin
  dsimp only
  by_cases h2 : S.t = 1
  · have fx := FIN.out w1 bp (Keeps.refl _ _) HR1.out (fun hh => by omega)
    rw [h2, show ((1 : Nat) : Int) = 1 from rfl] at c17
    rw [h2, show ((1 - 1 : Nat) : Int) = 0 from rfl] at fx
    obtain ⟨F1, F2, F3, F4⟩ := fx
    have G1 := Lib.hid F1
    have G2 := Lib.hid F2
    have H2 := Lib.hid h2
    clear F1 F2 FIN ht h2
    (repeat (first | go_values | go_skip | go_guarded | go_step | go_upon))
    refine leaves_cons (f := 68) (args := #[.pointer (some ⟨gr, 0, none⟩)]) (by simp) (by simp [go_sem]) ?_
    obtain ⟨bp', hr', hb'⟩ := G1.out.roll
    refine (wu_any .returning hr').mono ?_
    rintro e u' w3 ⟨rfl, rfl, hr3, hk3⟩
    refine ⟨_, results_tmp rfl _ _ _, rfl, ?_, G2.out.trans (hk3.mono fun j hj => hj.2)⟩
    rw [H2.out]
    exact G1.out.locked hb' hr3 hk3
  · obtain ⟨k, hk⟩ : ∃ k, S.t = k + 2 := ⟨S.t - 2, by omega⟩
    have hlv := H1.out.st.lv (k + 1) (by omega)
    have hbf := bfree tg w1 (k + 2) _ _ hlv
    rw [hbp', hk] at c12
    have c12' : w1.cell? ⟨gr, 12, none⟩ = some (.pointer (some ⟨(S.L (k + 2)).b, 0, none⟩)) := c12
    have hz : (1 : Int) < (S.t : Int) := by omega
    have HLV := Lib.hid hlv
    have HBF := Lib.hid hbf
    have HK := Lib.hid hk
    clear c12 hlv hbf hk
    (repeat (first | go_values | go_skip | go_guarded | go_step | go_upon))
    refine HBF.out.mono ?_
    rintro e w2 ⟨rfl, hk2⟩
    have hr2 := (hk2.block gr (lt_of_heap HR1.out)).trans HR1.out
    obtain ⟨d12, -, -, -, -, d17, -, g12, g17⟩ := RollAt.cells hr2
    have hbx := (hk2.block w.heap.size (lt_of_heap HBX.out)).trans HBX.out
    have d0 := box_cell hbx
    have e0 := HLV.out.cell1.1
    have e1 : w2.cell? ⟨(S.L (k + 2)).b, 0, none⟩ = some (.iface 105 (.pointer (some ⟨(S.L (k + 1)).b, 0, none⟩))) := by
      have := (cells_at ((hk2.block _ HLV.out.blt).trans HLV.out.cb)).1 0
      exact this
    rw [hbp', HK.out] at d12
    have d12' : w2.cell? ⟨gr, 12, none⟩ = some (.pointer (some ⟨(S.L (k + 2)).b, 0, none⟩)) := d12
    have ta := as_bit
    have HK2 := Lib.hid hk2
    have HR2 := Lib.hid hr2
    clear d12 e0 hbx hk2 hr2 HBF
    dsimp only
    (repeat (first | go_values | go_skip | go_guarded | go_step | go_upon))
    go_region
    have r3 : RollAt ((w2.setCell ⟨gr, 12, none⟩ (.pointer (some ⟨(S.L (k + 1)).b, 0, none⟩))).drew) gr 1 (-1073741824) 0 S.gm gc S.t (some ⟨(S.L (k + 1)).b, 0, none⟩) := heap_set_same HR2.out 12 _
    have k3 : Keeps (fun j => j < w1.heap.size ∧ j ≠ gr) w1 ((w2.setCell ⟨gr, 12, none⟩ (.pointer (some ⟨(S.L (k + 1)).b, 0, none⟩))).drew) := ((HK2.out.mono fun j hj => hj.1).trans (Keeps.setCell (a := ⟨gr, 12, none⟩) (fun hh => hh.2 rfl) _)).trans (Keeps.drew _ _)
    generalize (w2.setCell ⟨gr, 12, none⟩ (.pointer (some ⟨(S.L (k + 1)).b, 0, none⟩))).drew = W at *
    have fx := FIN.out W _ k3 r3 (fun _ => by rw [HK.out]; rfl)
    have g0 := box_cell ((k3.block w.heap.size ⟨lt_of_heap HBX.out, by omega⟩).trans HBX.out)
    obtain ⟨-, -, -, -, -, i17, -, j12, j17⟩ := r3.cells
    rw [show ((S.t - 1 : Nat) : Int) = (S.t : Int) - 1 by omega] at fx
    obtain ⟨F1, F2, F3, F4⟩ := fx
    have G1 := Lib.hid F1
    have G2 := Lib.hid F2
    clear F1 F2 FIN r3 k3
    have hz9 := tt
    have hza : -9223372036854775808 ≤ (S.t : Int) - 1 := by omega
    have hzb : (S.t : Int) - 1 ≤ 9223372036854775807 := by omega
    (repeat (first | go_values | go_skip | go_guarded | go_step | go_upon))
    refine leaves_cons (f := 68) (args := #[.pointer (some ⟨gr, 0, none⟩)]) (by simp) (by simp [go_sem]) ?_
    obtain ⟨bp', hr', hb'⟩ := G1.out.roll
    refine (wu_any .returning hr').mono ?_
    rintro e u' w3 ⟨rfl, rfl, hr3, hk3⟩
    exact ⟨_, results_tmp rfl _ _ _, rfl, G1.out.locked hb' hr3 hk3, G2.out.trans (hk3.mono fun j hj => hj.2)⟩

end Go.Proofs.YtkkliejgmgmebaaGreatDoor
