/-
  bitFiler.Truncate.
-/
import Derived.Test.YtkkliejgmgmebaaGreatDoorRd
namespace Go.Proofs.YtkkliejgmgmebaaGreatDoor
open Go.RowKit

/-- level k + 1 is another one -/
theorem StIs.relevel {tg tg' : Nat → Nat × Nat} {w w' : World} {S : St} {k : Nat} {L : Lv} (h : StIs tg w S) (hk : k < S.t) (hb : L.b = (S.L (k + 1)).b) (hl : LvIs tg' w' (k + 1) (S.par k) L) (hpl : L.Plain)
    (hkp : ∀ j, j < w.heap.size → (tg j).1 ≤ S.t → (tg j).1 ≠ k + 1 → w'.heap[j]? = w.heap[j]?) (ht : ∀ j, j < w.heap.size → (tg j).1 ≤ S.t → tg' j = tg j) : StIs tg' w' (S.setL (k + 1) L) := by
  refine ⟨h.mem.retag (fun j h1 h2 => hkp j h1 (by omega) (by omega)) (fun j h1 h2 => ht j h1 (by omega)), fun j hj => ?_, h.fb, h.tt, h.pl.setL hpl⟩
  rw [par_set S (k + 1) L hb]
  have hj' : j < S.t := hj
  by_cases e : j = k
  · subst e
    rw [St.setL_same]
    exact hl
  · rw [St.setL_other S _ (show j + 1 ≠ k + 1 by omega)]
    exact (h.lv j hj').kept (fun i h1 h2 => hkp i h1 (by omega) (by omega)) (fun i h1 h2 => ht i h1 (by omega))

/-- level K without the pages lo .. hi - 1 -/
def Lv.cut (L : Lv) (lo hi : Nat) : Lv := { L with f := fun q => if lo ≤ q ∧ q < hi then none else L.f q }

theorem Lv.cut_none (L : Lv) (lo : Nat) : L.cut lo lo = L := by
  unfold Lv.cut
  have e : (fun q => if lo ≤ q ∧ q < lo then none else L.f q) = L.f := by
    funext q
    rw [if_neg (by omega)]
  rw [e]

theorem St.setL_self (S : St) (K : Nat) : S.setL K (S.L K) = S := by
  unfold St.setL
  have e : (fun j => if j = K then S.L K else S.L j) = S.L := by
    funext j
    split
    · rename_i h; rw [h]
    · rfl
  rw [e]

theorem St.setL_setL (S : St) (K : Nat) (L L' : Lv) : (S.setL K L).setL K L' = S.setL K L' := by
  have e : (fun j => if j = K then L' else (S.setL K L).L j) = fun j => if j = K then L' else S.L j := by
    funext j
    by_cases h : j = K
    · rw [if_pos h, if_pos h]
    · rw [if_neg h, if_neg h, St.setL_other S L h]
  show St.mk S.gm S.gz S.v S.fb S.t (fun j => if j = K then L' else (S.setL K L).L j) = St.mk S.gm S.gz S.v S.fb S.t fun j => if j = K then L' else S.L j
  rw [e]

/-- level K has lost pages -/
structure Lost (K : Nat) (S S' : St) (n : Nat) : Prop where
  upd : Upd K S S'
  size : (S'.L K).size = n
  some' : ∀ p, (S'.L K).f p = (S.L K).f p ∨ (S'.L K).f p = none
  all : ∀ p, p * 4096 < n → (S'.L K).f p = (S.L K).f p

theorem Upd.relevel (S : St) (K : Nat) (L : Lv) (hb : L.b = (S.L K).b) : Upd K S (S.setL K L) := by
  refine ⟨rfl, rfl, rfl, rfl, rfl, fun j hj => St.setL_other S _ (by omega), fun j => ?_, fun j hj => by rw [St.setL_other S _ hj], fun j i hj => (St.raw_below S K _ j hj).1 i, fun j q hj => ?_⟩
  · by_cases e : j = K
    · subst e; rw [St.setL_same]; exact hb
    · rw [St.setL_other S _ e]
  · unfold St.dirty
    rw [St.setL_other S _ hj]

theorem set_cut (L : Lv) (lo i : Nat) (h : lo ≤ i) : (fun q => ((L.cut lo (i + 1)).f q).map Pg.g) = setF (fun q => ((L.cut lo i).f q).map Pg.g) i none := by
  funext q
  unfold Lv.cut setF
  dsimp only
  by_cases e : q = i
  · subst e
    rw [if_pos ⟨h, by omega⟩, if_pos rfl]
    rfl
  · rw [if_neg e]
    by_cases h2 : lo ≤ q ∧ q < i
    · rw [if_pos h2, if_pos ⟨h2.1, by omega⟩]
    · rw [if_neg h2, if_neg (by omega)]

/-- what holds while pages are struck -/
structure CutAt (tg : Nat → Nat × Nat) (w0 : World) (S : St) (k lo i : Nat) (w : World) : Prop where
  st : StIs tg w (S.setL (k + 1) ((S.L (k + 1)).cut lo i))
  kp : Keeps (fun j => j < w0.heap.size ∧ k + 1 < (tg j).1) w0 w

theorem CutAt.step {tg : Nat → Nat × Nat} {w0 w : World} {S : St} {k lo i : Nat} (h : CutAt tg w0 S k lo i w) (hk : k < S.t) (hmt : (tg (S.L (k + 1)).m).1 = k + 1) (hlo : lo ≤ i) (hi : i ≤ 1000000) (ty : TypeId) :
    ∃ w', (Builtin.delete_ #[138, 2] ty #[.map (some (S.L (k + 1)).m), .int .i64 (i : Int)]).run Tryz.prog w = .ok (.tuple #[]) w' ∧ CutAt tg w0 S k lo (i + 1) w' := by
  have hl := h.st.lv k hk
  rw [St.setL_same, par_set S (k + 1) ((S.L (k + 1)).cut lo i) rfl] at hl
  obtain ⟨w', hrun, hm', hg⟩ := hl.map.del (p := i) (by omega) ty
  have hgm : ((S.L (k + 1)).cut lo i).m = (S.L (k + 1)).m := rfl
  rw [hgm] at hrun hm' hg
  obtain ⟨es, c, hmm⟩ := hl.map.isMap
  rw [hgm] at hmm
  have keep : ∀ j, j < w.heap.size → j ≠ (S.L (k + 1)).m → w'.heap[j]? = w.heap[j]? := fun j h1 h2 => hg.block j h1 (fun e => h2 (Option.some.inj e))
  refine ⟨w', hrun, ?_, h.kp.trans (Keeps.grown (fun j hj => Nat.lt_of_lt_of_le hj.1 h.kp.size) hg fun j e hj => ?_)⟩
  · have hst : StIs tg w' ((S.setL (k + 1) ((S.L (k + 1)).cut lo i)).setL (k + 1) ((S.L (k + 1)).cut lo (i + 1))) := by
      have hpl2 : ((S.L (k + 1)).cut lo (i + 1)).Plain := by
        have hp0 := h.st.pl k (show k < (S.setL (k + 1) ((S.L (k + 1)).cut lo i)).t from hk)
        rw [St.setL_same] at hp0
        intro q x hx
        refine hp0 q x ?_
        unfold Lv.cut at hx ⊢
        dsimp only at hx ⊢
        by_cases h3 : lo ≤ q ∧ q < i + 1
        · rw [if_pos h3] at hx; cases hx
        · rw [if_neg h3] at hx
          rw [if_neg (by omega)]; exact hx
      refine h.st.relevel (by exact hk) (by rw [St.setL_same]; rfl) ?_ hpl2 (fun j h1 h2 h3 => keep j h1 (fun e => h3 (by rw [e]; exact hmt))) (fun _ _ _ => rfl)
      rw [par_set S (k + 1) ((S.L (k + 1)).cut lo i) rfl]
      refine ⟨(keep _ hl.blt fun e => ?_).trans hl.cb, hl.tb, hl.tm, ?_, fun q x hx => ?_, hl.sz⟩
      · have := hl.cb
        rw [e, hmm] at this
        cases this
      · rw [set_cut _ _ _ hlo]
        exact hm'
      · have hx' : ((S.L (k + 1)).cut lo i).f q = some x := by
          unfold Lv.cut at hx ⊢
          dsimp only at hx ⊢
          by_cases h2 : lo ≤ q ∧ q < i
          · rw [if_pos ⟨h2.1, by omega⟩] at hx; cases hx
          · by_cases h3 : lo ≤ q ∧ q < i + 1
            · rw [if_pos h3] at hx; cases hx
            · rw [if_neg h3] at hx
              rw [if_neg h2]; exact hx
        obtain ⟨h1, h2, h3⟩ := hl.page q x hx'
        refine ⟨h1.kept (keep _ h1.glt fun e => ?_) (keep _ h1.rlt fun e => ?_), h2, h3⟩
        · obtain ⟨pd, hc⟩ := h1.cell
          rw [e, hmm] at hc
          cases hc
        · obtain ⟨-, -, cur, hc⟩ := h1.row.own (k := x.r) rfl
          rw [e, hmm] at hc
          cases hc
    rw [St.setL_setL] at hst
    exact hst
  · have e' := Option.some.inj e
    subst e'
    have h2 : k + 1 < (tg (S.L (k + 1)).m).1 := hj.2
    omega

noncomputable def body80 : Code := ((Tryz.f80.body.bind firstLoop).getD .skip)

structure frm80p (s0 s1 s4 s5 s6 : Value) (a : Act) : Prop where
  df : a.defers = []
  sz : a.tmps.size = 76
  h0 : a.tmps.getD 0 undef = s0
  h1 : a.tmps.getD 1 undef = s1
  h4 : a.tmps.getD 4 undef = s4
  h5 : a.tmps.getD 5 undef = s5
  h6 : a.tmps.getD 6 undef = s6
set_option maxRecDepth 100000 in
theorem frm80 {s0 s1 s4 s5 s6 : Value} {a : Act} (h : frm80p s0 s1 s4 s5 s6 a) : ∃ u : Nat → Value, a = ⟨#[s0, s1, u 2, u 3, s4, s5, s6, u 7, u 8, u 9, u 10, u 11, u 12, u 13, u 14, u 15, u 16, u 17, u 18, u 19, u 20, u 21, u 22, u 23, u 24, u 25, u 26, u 27, u 28, u 29, u 30, u 31, u 32, u 33, u 34, u 35, u 36, u 37, u 38, u 39, u 40, u 41, u 42, u 43, u 44, u 45, u 46, u 47, u 48, u 49, u 50, u 51, u 52, u 53, u 54, u 55, u 56, u 57, u 58, u 59, u 60, u 61, u 62, u 63, u 64, u 65, u 66, u 67, u 68, u 69, u 70, u 71, u 72, u 73, u 74, u 75], []⟩ := by
  obtain ⟨F, df⟩ := a
  obtain ⟨rfl, hs, rfl, rfl, rfl, rfl, rfl⟩ := h
  refine ⟨fun i => F.getD i undef, ?_⟩
  have e := open_frame F
  rw [hs] at e
  exact congrArg (Act.mk · []) e

set_option maxRecDepth 100000 in
set_option maxHeartbeats 8000000 in
theorem btrunc_loop (Q0 : Exit → Act → World → Prop) (tg : Nat → Nat × Nat) (w0 : World) (S : St) (k lo hi b : Nat) (s1 : Value) (A : Act)
    (hS : StIs tg w0 S) (hk : k < S.t) (hb : (S.L (k + 1)).b = b) (hhi : hi ≤ 100000)
    (hA : frm80p (.pointer (some ⟨b, 0, none⟩)) s1 .nilIface (.int .i64 (lo : Int)) (.int .i64 (hi : Int)) A)
    (hexit : ∀ (a' : Act) w', (∃ i, frm80p (.pointer (some ⟨b, 0, none⟩)) s1 .nilIface i (.int .i64 (hi : Int)) a') → CutAt tg w0 S k lo (max lo hi) w' → Q0 (.exit 1) a' w') :
    Code.wp Tryz.prog (Code.loop body80) Q0 A w0 := by
  have hl0 := hS.lv k hk
  have htm := hl0.tm
  have hsz0 := hl0.sz
  refine wp_loop_ghost (fun j a' w' => ∃ i : Nat, j = hi - i ∧ lo ≤ i ∧ (i ≤ hi ∨ i = lo) ∧ frm80p (.pointer (some ⟨b, 0, none⟩)) s1 .nilIface (.int .i64 (i : Int)) (.int .i64 (hi : Int)) a' ∧ CutAt tg w0 S k lo i w') (hi - lo)
    ⟨lo, rfl, Nat.le_refl _, .inr rfl, hA, by rw [Lv.cut_none, St.setL_self]; exact hS, Keeps.refl _ _⟩ ?_
  rintro j a' w' ⟨i, rfl, hlo, hih, ha, hC⟩
  obtain ⟨u, rfl⟩ := frm80 ha
  clear ha hA
  conv => arg 2; whnf
  have HE := Lib.hid hexit
  have HC := Lib.hid hC
  by_cases hlt : i < hi
  · have hl := hC.st.lv k hk
    rw [St.setL_same, par_set S (k + 1) ((S.L (k + 1)).cut lo i) rfl] at hl
    obtain ⟨m, hm⟩ : ∃ m, (S.L (k + 1)).m = m := ⟨_, rfl⟩
    obtain ⟨c0, -⟩ := cells_at hl.cb
    have x1 := c0 1
    simp only [List.getElem?_toArray, List.getElem?_cons_succ, List.getElem?_cons_zero] at x1
    have hgm : ((S.L (k + 1)).cut lo i).m = m := hm
    have hgb : ((S.L (k + 1)).cut lo i).b = b := hb
    rw [hgb, hgm] at x1
    have hlk := (hl.map.look (p := i) (by omega)).2
    rw [hgm] at hlk
    obtain ⟨w2, hdel, hC2⟩ := hC.step hk htm hlo (by omega) 0
    rw [hm] at hdel
    have HC2 := Lib.hid hC2
    cases hf : ((S.L (k + 1)).cut lo i).f i with
    | some x =>
      rw [hf] at hlk
      simp only [Option.map_some, ptrO, Option.isSome_some] at hlk
      obtain ⟨pd, hxc⟩ := (hl.page i x hf).1.cell
      have g2 := (cells_at hxc).1 2
      simp only [List.getElem?_toArray, List.getElem?_cons_succ, List.getElem?_cons_zero] at g2
      clear hl hC hC2 hexit hS hl0 c0 hxc
      (repeat (first | go_values | go_skip | go_guarded | go_step | go_upon))
      refine (bufPut_any _ _).mono ?_
      rintro e w3 ⟨rfl, rfl⟩
      dsimp only
      (repeat (first | go_values | go_skip | go_guarded | go_step | go_upon))
      exact ⟨hi - (i + 1), by omega, i + 1, rfl, by omega, by omega, ⟨rfl, rfl, rfl, rfl, rfl, by go_num, rfl⟩, HC2.out⟩
    | none =>
      rw [hf] at hlk
      simp only [Option.map_none, ptrO, Option.isSome_none] at hlk
      clear hl hC hC2 hexit hS hl0 c0
      (repeat (first | go_values | go_skip | go_guarded | go_step | go_upon))
      exact ⟨hi - (i + 1), by omega, i + 1, rfl, by omega, by omega, ⟨rfl, rfl, rfl, rfl, rfl, by go_num, rfl⟩, HC2.out⟩
  · have e : max lo hi = i := by omega
    rw [e] at HE
    clear hC hexit hS hl0
    (repeat (first | go_values | go_skip | go_guarded | go_step | go_upon))
    exact HE.out _ _ ⟨_, rfl, rfl, rfl, rfl, rfl, rfl, rfl⟩ HC.out

theorem blk_lt {w : World} {b o : Nat} {v : Value} (h : w.cell? ⟨b, o, none⟩ = some v) : b < w.heap.size := block_lt_of_cell h

/-- what a truncation leaves -/
def TrPost (tg : Nat → Nat × Nat) (w : World) (S : St) (K n : Nat) (tg' : Nat → Nat × Nat) (S' : St) (w' : World) : Prop :=
  Lost K S S' n ∧ (∀ j, j < w.heap.size → tg' j = tg j) ∧ StIs tg' w' S' ∧ Keeps (fun j => j < w.heap.size ∧ K < (tg j).1) w w'

set_option maxRecDepth 100000 in
set_option maxHeartbeats 4000000 in
/-- LEVEL k + 1 IS TRUNCATED. -/
theorem btrunc (tg : Nat → Nat × Nat) (w : World) (S : St) (k n : Nat) (hS : StIs tg w S) (hk : k < S.t) (hn : n ≤ 299008) :
    Calls Tryz.prog 80 #[.pointer (some ⟨(S.L (k + 1)).b, 0, none⟩), .int .i64 (n : Int)] w fun e w' => e = .returned .nilIface ∧ ∃ tg' S', TrPost tg w S (k + 1) n tg' S' w' := by
  obtain ⟨b, hb⟩ : ∃ b, (S.L (k + 1)).b = b := ⟨_, rfl⟩
  have hl := hS.lv k hk
  have hsz := hl.sz
  have htt := hS.tt
  obtain ⟨size, hs⟩ : ∃ size, (S.L (k + 1)).size = size := ⟨_, rfl⟩
  obtain ⟨c0, cf⟩ := cells_at hl.cb
  have x1 := c0 1
  have x2 := c0 2
  have f1 := cf 1
  have f2 := cf 2
  simp only [List.getElem?_toArray, List.getElem?_cons_succ, List.getElem?_cons_zero] at x1 x2
  rw [hb] at x1 x2 f1 f2
  rw [hs] at x2 hsz
  clear c0 cf
  rw [hb]
  by_cases h0 : n = 0
  · subst h0
    have hmm := @run_makeMap Tryz.prog
    have hw := blk_lt x1
    have hbw : b < w.heap.size := hw
    have fin : ∃ tg' S', TrPost tg w S (k + 1) 0 tg' S' (((w.setCell ⟨b, 1, none⟩ (.map (some w.heap.size))).setCell ⟨b, 2, none⟩ (.int .i64 0)).alloc (.map #[] 0)) := by
      have hcb := hl.cb
      rw [hb] at hcb
      have hc1 := heap_set_same hcb 1 (.map (some w.heap.size))
      have hc2 := heap_set_same hc1 2 (.int .i64 0)
      have htb := hl.tb
      rw [hb] at htb
      have keep0 : ∀ j, j ≠ b → ((w.setCell ⟨b, 1, none⟩ (.map (some w.heap.size))).setCell ⟨b, 2, none⟩ (.int .i64 0)).heap[j]? = w.heap[j]? := fun j h2 => by
        rw [heap_set_other _ _ _ h2, heap_set_other _ _ _ h2]
      have nb : ¬ (b < w.heap.size ∧ k + 1 < (tg b).1) := fun h => by omega
      have kp0 : Keeps (fun j => j < w.heap.size ∧ k + 1 < (tg j).1) w ((w.setCell ⟨b, 1, none⟩ (.map (some w.heap.size))).setCell ⟨b, 2, none⟩ (.int .i64 0)) := (Keeps.setCell (a := ⟨b, 1, none⟩) nb _).trans (Keeps.setCell (a := ⟨b, 2, none⟩) nb _)
      have hs0 : ((w.setCell ⟨b, 1, none⟩ (.map (some w.heap.size))).setCell ⟨b, 2, none⟩ (.int .i64 0)).heap.size = w.heap.size := by rw [size_set, size_set]
      generalize (w.setCell ⟨b, 1, none⟩ (.map (some w.heap.size))).setCell ⟨b, 2, none⟩ (.int .i64 0) = W at *
      have hm1 := MapIs.made W
      rw [hs0] at hm1
      have kp1 := kp0.trans (Keeps.alloc (w := W) (fun j hj => by have := hj.1; omega) (.map #[] 0))
      have keep : ∀ j, j < w.heap.size → j ≠ b → (W.alloc (.map #[] 0)).heap[j]? = w.heap[j]? := fun j h1 h2 => (heap_alloc_lt W _ (by omega)).trans (keep0 j h2)
      refine ⟨fun j => if j < w.heap.size then tg j else (k + 1, 0), S.setL (k + 1) ⟨b, w.heap.size, 0, fun _ => none⟩, ⟨Upd.relevel S _ _ hb.symm, by rw [St.setL_same], fun p => .inr (by rw [St.setL_same]), fun p hp => by omega⟩, fun j hj => if_pos hj, hS.relevel hk hb.symm ⟨(heap_alloc_lt W _ (by show b < W.heap.size; omega)).trans hc2, ?_, ?_, hm1, fun p x hx => (by cases hx), (by show (0 : Nat) ≤ 299008; omega)⟩ (fun p x hx => by cases hx) (fun j h1 _ h3 => keep j h1 (fun e => h3 (by rw [e]; exact htb))) (fun j h1 _ => if_pos h1), kp1⟩
      · show (if b < w.heap.size then tg b else (k + 1, 0)).1 = k + 1
        rw [if_pos hw]; exact htb
      · show (if w.heap.size < w.heap.size then tg w.heap.size else (k + 1, 0)).1 = k + 1
        rw [if_neg (Nat.lt_irrefl _)]
    have FIN := Lib.hid fin
    clear hl hS fin
    go_enter Tryz.func80, Tryz.ntmps80
    (repeat (first | go_values | go_skip | go_guarded | go_step | go_upon))
    go_ret
    exact ⟨rfl, FIN.out⟩
  · have LP := Lib.hid (fun Q0 lo hi s1 A hhi hA hx => btrunc_loop Q0 tg w S k lo hi b s1 A hS hk hb hhi hA hx)
    have a1 := and4095 n (by omega)
    have a2 := and4095 size (by omega)
    have fin : ∀ (lo hi : Nat) (w' : World), lo = (n + 4095) / 4096 → CutAt tg w S k lo (max lo hi) w' → w'.cell? ⟨b, 2, none⟩ = some (.int .i64 (size : Int)) ∧ w'.frozen? ⟨b, 2, none⟩ = false ∧ ∃ tg' S', TrPost tg w S (k + 1) n tg' S' (w'.setCell ⟨b, 2, none⟩ (.int .i64 (n : Int))) := by
      intro lo hi w' hlo hC
      have hk' : k < (S.setL (k + 1) ((S.L (k + 1)).cut lo (max lo hi))).t := hk
      have hl' := hC.st.lv k hk'
      have e1 := St.setL_same S (k + 1) ((S.L (k + 1)).cut lo (max lo hi))
      have hc := hl'.cb
      have htb := hl'.tb
      rw [e1] at hc htb
      have hb' : ((S.L (k + 1)).cut lo (max lo hi)).b = b := hb
      have hs' : ((S.L (k + 1)).cut lo (max lo hi)).size = size := hs
      rw [hb', hs'] at hc
      rw [hb'] at htb
      have h2 := hC.st.resize hk' n hn
      rw [e1, hb'] at h2
      refine ⟨(cells_at hc).1 2, (cells_at hc).2 2, tg, _, ⟨(Upd.relevel S (k + 1) ((S.L (k + 1)).cut lo (max lo hi)) rfl).trans (Upd.relevel (S.setL (k + 1) ((S.L (k + 1)).cut lo (max lo hi))) (k + 1) (((S.L (k + 1)).cut lo (max lo hi)).resize n) (by rw [e1]; rfl)), by rw [St.setL_same]; rfl, fun p => ?_, fun p hp => ?_⟩, fun _ _ => rfl, h2, hC.kp.trans (Keeps.setCell (a := ⟨b, 2, none⟩) (fun h => ?_) _)⟩
      · rw [St.setL_same]
        show (if lo ≤ p ∧ p < max lo hi then none else (S.L (k + 1)).f p) = _ ∨ (if lo ≤ p ∧ p < max lo hi then none else (S.L (k + 1)).f p) = none
        split
        · exact .inr rfl
        · exact .inl rfl
      · rw [St.setL_same]
        show (if lo ≤ p ∧ p < max lo hi then none else (S.L (k + 1)).f p) = _
        rw [if_neg (by omega)]
      · have h3 : k + 1 < (tg b).1 := h.2
        omega
    have FIN := Lib.hid fin
    clear hl hS fin
    by_cases p1 : n % 4096 = 0
    · by_cases p2 : size % 4096 = 0
      · go_enter Tryz.func80, Tryz.ntmps80
        (repeat (first | go_values | go_skip | go_guarded | go_step | go_upon))
        refine LP.out _ (n / 4096) (size / 4096) _ _ (by omega) ⟨rfl, rfl, rfl, rfl, rfl, by go_num, by go_num⟩ ?_
        intro a' w' ⟨i, ha'⟩ hC
        obtain ⟨u', rfl⟩ := frm80 ha'
        obtain ⟨z2, z3, hfin⟩ := FIN.out _ _ w' (by omega) hC
        have FF := Lib.hid hfin
        clear ha' hC LP FIN hfin
        simp only [Exit.inBlock, ↓reduceIte]
        (repeat (first | go_values | go_skip | go_guarded | go_step | go_upon))
        go_ret
        exact ⟨rfl, FF.out⟩
      · go_enter Tryz.func80, Tryz.ntmps80
        (repeat (first | go_values | go_skip | go_guarded | go_step | go_upon))
        refine LP.out _ (n / 4096) (size / 4096 + 1) _ _ (by omega) ⟨rfl, rfl, rfl, rfl, rfl, by go_num, by go_num⟩ ?_
        intro a' w' ⟨i, ha'⟩ hC
        obtain ⟨u', rfl⟩ := frm80 ha'
        obtain ⟨z2, z3, hfin⟩ := FIN.out _ _ w' (by omega) hC
        have FF := Lib.hid hfin
        clear ha' hC LP FIN hfin
        simp only [Exit.inBlock, ↓reduceIte]
        (repeat (first | go_values | go_skip | go_guarded | go_step | go_upon))
        go_ret
        exact ⟨rfl, FF.out⟩
    · by_cases p2 : size % 4096 = 0
      · go_enter Tryz.func80, Tryz.ntmps80
        (repeat (first | go_values | go_skip | go_guarded | go_step | go_upon))
        refine LP.out _ (n / 4096 + 1) (size / 4096) _ _ (by omega) ⟨rfl, rfl, rfl, rfl, rfl, by go_num, by go_num⟩ ?_
        intro a' w' ⟨i, ha'⟩ hC
        obtain ⟨u', rfl⟩ := frm80 ha'
        obtain ⟨z2, z3, hfin⟩ := FIN.out _ _ w' (by omega) hC
        have FF := Lib.hid hfin
        clear ha' hC LP FIN hfin
        simp only [Exit.inBlock, ↓reduceIte]
        (repeat (first | go_values | go_skip | go_guarded | go_step | go_upon))
        go_ret
        exact ⟨rfl, FF.out⟩
      · go_enter Tryz.func80, Tryz.ntmps80
        (repeat (first | go_values | go_skip | go_guarded | go_step | go_upon))
        refine LP.out _ (n / 4096 + 1) (size / 4096 + 1) _ _ (by omega) ⟨rfl, rfl, rfl, rfl, rfl, by go_num, by go_num⟩ ?_
        intro a' w' ⟨i, ha'⟩ hC
        obtain ⟨u', rfl⟩ := frm80 ha'
        obtain ⟨z2, z3, hfin⟩ := FIN.out _ _ w' (by omega) hC
        have FF := Lib.hid hfin
        clear ha' hC LP FIN hfin
        simp only [Exit.inBlock, ↓reduceIte]
        (repeat (first | go_values | go_skip | go_guarded | go_step | go_upon))
        go_ret
        exact ⟨rfl, FF.out⟩

end Go.Proofs.YtkkliejgmgmebaaGreatDoor

namespace Go.Proofs.YtkkliejgmgmebaaGreatDoor
open Go.RowKit

structure frm73p (s8 : Value) (a : Act) : Prop where
  df : a.defers = []
  sz : a.tmps.size = 18
  h8 : a.tmps.getD 8 undef = s8
set_option maxRecDepth 100000 in
theorem frm73 {s8 : Value} {a : Act} (h : frm73p s8 a) : ∃ u : Nat → Value, a = ⟨#[u 0, u 1, u 2, u 3, u 4, u 5, u 6, u 7, s8, u 9, u 10, u 11, u 12, u 13, u 14, u 15, u 16, u 17], []⟩ := by
  obtain ⟨F, df⟩ := a
  obtain ⟨rfl, hs, rfl⟩ := h
  refine ⟨fun i => F.getD i undef, ?_⟩
  have e := open_frame F
  rw [hs] at e
  exact congrArg (Act.mk · []) e

theorem LvIs.cell1 {tg : Nat → Nat × Nat} {w : World} {k : Nat} {par : Value} {L : Lv} (h : LvIs tg w k par L) : w.cell? ⟨L.b, 0, none⟩ = some par ∧ w.cell? ⟨L.b, 1, none⟩ = some (.map (some L.m)) ∧ w.cell? ⟨L.b, 2, none⟩ = some (.int .i64 (L.size : Int)) := by
  obtain ⟨c0, -⟩ := cells_at h.cb
  exact ⟨c0 0, c0 1, c0 2⟩

set_option maxRecDepth 100000 in
set_option maxHeartbeats 4000000 in
theorem bfree (tg : Nat → Nat × Nat) (w : World) (k : Nat) (par : Value) (L : Lv) (h : LvIs tg w k par L) :
    Calls Tryz.prog 73 #[.pointer (some ⟨L.b, 0, none⟩)] w fun e w' => e = .returned (.tuple #[]) ∧ Keeps (Old w) w w' := by
  obtain ⟨-, x1, -⟩ := h.cell1
  obtain ⟨w1, cnt, hrun, hmr, hg, hs⟩ := h.map.range
  have hk1 : Keeps (Old w) w w1 := Keeps.grown (fun _ h => h) hg (fun _ e => by cases e)
  have H := Lib.hid h
  have HM := Lib.hid hmr
  have HK1 := Lib.hid hk1
  clear h hmr hk1 hg
  go_enter Tryz.func73, Tryz.ntmps73
  (repeat (first | go_values | go_skip | go_guarded | go_step | go_upon))
  refine wp_loop_ghost (fun j a' w' => ∃ left, frm73p (.pointer (some ⟨w.heap.size, 0, none⟩)) a' ∧ MRange w' L.m w.heap.size (fun p => (L.f p).map Pg.g) left j ∧ Keeps (Old w) w w') cnt ⟨_, ⟨rfl, rfl, rfl⟩, HM.out, HK1.out⟩ ?_
  rintro j a' w' ⟨left, ha, hm, hk⟩
  obtain ⟨u, rfl⟩ := frm73 ha
  clear ha
  have HK := Lib.hid hk
  rcases hm.next 0 with ⟨-, hn⟩ | ⟨p, g, w2, cnt', -, hf, hn, hm2, hlt, hg2, hs2, hen⟩
  · clear hk hm
    (repeat (first | go_values | go_skip | go_guarded | go_step | go_upon))
    exact bodyPost_end (results_none rfl _ _ _) rfl ⟨rfl, HK.out⟩
  · cases hx : L.f p with
    | none => rw [hx] at hf; cases hf
    | some x =>
      rw [hx] at hf
      obtain rfl : x.g = g := Option.some.inj hf
      obtain ⟨pd, hc⟩ := (H.out.page p x hx).1.cell
      have hk2 : Keeps (Old w) w w2 := hk.trans (Keeps.grown (fun j (hj : j < w.heap.size) => Nat.lt_of_lt_of_le hj hk.size) hg2 fun j e (hj : j < w.heap.size) => by
        simp only [Option.some.injEq] at e
        omega)
      have g2 := (cells_at ((hk2.block x.g (lt_of_heap hc)).trans hc)).1 2
      simp only [List.getElem?_toArray, List.getElem?_cons_succ, List.getElem?_cons_zero] at g2
      have HK2 := Lib.hid hk2
      have HM2 := Lib.hid hm2
      clear hk hm hm2 hk2 hg2 hc hx
      (repeat (first | go_values | go_skip | go_guarded | go_step | go_upon))
      refine (bufPut_any _ _).mono ?_
      rintro e w3 ⟨rfl, rfl⟩
      dsimp only
      (repeat (first | go_values | go_skip | go_guarded | go_step | go_upon))
      exact ⟨cnt', hlt, _, ⟨rfl, rfl, rfl⟩, HM2.out, HK2.out⟩

end Go.Proofs.YtkkliejgmgmebaaGreatDoor

namespace Go.Proofs.YtkkliejgmgmebaaGreatDoor
open Go.RowKit

/-- level k has got page p -/
structure PWr (k : Nat) (S S' : St) (p : Nat) (bs : List UInt8) : Prop where
  gm : S'.gm = S.gm
  gz : S'.gz = S.gz
  t : S'.t = S.t
  up : ∀ j, k < j → S'.L j = S.L j
  b : ∀ j, (S'.L j).b = (S.L j).b
  fb : 0 < k → S'.fb = S.fb
  sz : ∀ j, 0 < j → j ≠ k → (S'.L j).size = (S.L j).size
  rawlo : ∀ j i, j < k → S'.raw j i = S.raw j i
  raw : ∀ i, S'.raw k i = if i / 4096 = p then bs.getD (i % 4096) 0 else S.raw k i
  dirtyo : ∀ j q, 0 < j → j ≠ k → S'.dirty j q = S.dirty j q
  dirty : 0 < k → ∀ q, S'.dirty k q = true ↔ (S.dirty k q = true ∨ q = p)
  size : S'.size k = max (S.size k) ((p + 1) * 4096)

def wrFn : Nat → FuncId
  | 0 => 124
  | _ + 1 => 81

theorem wrB_getD (bs : List UInt8) (off : Nat) (xs : List UInt8) (h : xs ≠ []) (i : Nat) : (wrB bs off xs).getD i 0 = if off ≤ i ∧ i < off + xs.length then xs.getD (i - off) 0 else bs.getD i 0 := by
  unfold wrB
  rw [if_neg h, splice_getD' _ _ _ (by simp; omega)]
  split
  · rfl
  · rw [List.getD_eq_getElem?_getD, List.getD_eq_getElem?_getD]
    by_cases hi : i < bs.length
    · rw [List.getElem?_append_left hi]
    · rw [List.getElem?_append_right (by omega), List.getElem?_replicate, List.getElem?_eq_none (by omega)]
      split <;> rfl

/-- what a page's write leaves -/
def PwPost (tg : Nat → Nat × Nat) (w : World) (S : St) (k p : Nat) (bs : List UInt8) (w' : World) : Prop :=
  ∃ tg' S', PWr k S S' p bs ∧ (∀ j, j < w.heap.size → tg' j = tg j) ∧ StIs tg' w' S' ∧ Keeps (fun j => j < w.heap.size ∧ k < (tg j).1) w w'

set_option maxRecDepth 100000 in
theorem pwrite (tg : Nat → Nat × Nat) (w : World) (S : St) (k p r : Nat) (bs : List UInt8) (va vb : Addr) (hS : StIs tg w S) (hk : k ≤ S.t) (hV : VarsO tg w va vb) (hp : p < 73)
    (hr : Rd (fun j => j < w.heap.size ∧ k < (tg j).1) w (some ⟨r, 0, none⟩) 4096 bs) :
    Calls Tryz.prog (wrFn k) #[.pointer (some (S.ptr k)), .slice (some ⟨r, 0, none⟩) 4096 4096, .int .i64 ((p * 4096 : Nat) : Int)] w fun e w' => ∃ x y, e = .returned (.tuple #[x, y]) ∧ (y = .nilIface ∧ PwPost tg w S k p bs w') := by
  have hbl : bs.length = 4096 := hr.1
  have hne : bs ≠ [] := fun e => by rw [e] at hbl; simp at hbl
  cases k with
  | zero =>
    have hm := hS.mem
    have hlen := hS.fb
    obtain ⟨nest, -, -, hgm⟩ := hm.fm
    have hgl := lt_of_heap hgm
    have hm1 : MemIs (fun j => j < w.heap.size ∧ 0 < (tg j).1) w S.gm S.gz S.v S.fb := hm.widen fun j _ h1 h2 => h1 (by omega)
    have hz := hm1.zis2
    have hw := zwrite_any (fun j => (j < w.heap.size ∧ 0 < (tg j).1) ∨ j = S.gm) w S.gz S.v S.fb bs (some ⟨r, 0, none⟩) 4096 4096 (p * 4096) (fun j hj => hj.elim (fun h => h.1) (fun e => by omega)) hz (hr.mono fun j h => .inl h) (Nat.le_refl _) (by omega) (by omega) (by omega) (by omega)
    refine (mwrite_of w S.gm S.gz _ _ (fun x y w' => y = .nilIface ∧ PwPost tg w S 0 p bs w') hm.c0 (hw.mono ?_))
    rintro e w' ⟨rfl, v', hz', hk'⟩
    refine ⟨_, _, rfl, rfl, ?_⟩
    obtain ⟨tg', hto, htn⟩ : ∃ tg' : Nat → Nat × Nat, (∀ j, j < w.heap.size → tg' j = tg j) ∧ ∀ j, ¬ j < w.heap.size → tg' j = (0, 0) := ⟨fun j => if j < w.heap.size then tg j else (0, 0), fun j h => if_pos h, fun j h => if_neg h⟩
    have hzz : ZIs (fun j => (tg' j).1 ≠ 0) w' S.gz v' (wrB S.fb (p * 4096) bs) := hz'.widen fun j _ h1 h2 => by
      by_cases hj : j < w.heap.size
      · rw [hto j hj] at h2
        exact h1 (.inl ⟨hj, by omega⟩)
      · rw [htn j hj] at h2
        exact h2 rfl
    have hmm0 : MemIs (fun j => (tg' j).1 ≠ 0) w S.gm S.gz S.v S.fb := hm.retag (fun _ _ _ => rfl) (fun j h _ => hto j h)
    have hmf := hmm0.of_zis hzz (hk'.block S.gm (.inr rfl))
    have hlw := wrB_length S.fb (p * 4096) bs hne
    rw [hbl] at hlw
    have hraw : ∀ i, (wrB S.fb (p * 4096) bs).getD i 0 = if i / 4096 = p then bs.getD (i % 4096) 0 else S.fb.getD i 0 := fun i => by
      rw [wrB_getD _ _ _ hne, hbl]
      by_cases e : i / 4096 = p
      · rw [if_pos e, if_pos (by omega)]
        congr 1; omega
      · rw [if_neg e, if_neg (by omega)]
    refine ⟨tg', { S with v := v', fb := wrB S.fb (p * 4096) bs }, ⟨rfl, rfl, rfl, fun _ _ => rfl, fun _ => rfl, fun h => by omega, fun _ _ _ => rfl, fun j i hj => by omega, hraw, fun _ _ _ _ => rfl, fun h => by omega, ?_⟩, hto, ⟨hmf, fun j hj => ?_, ?_, hS.tt, hS.pl⟩, hk'.mono fun j hj => .inl hj⟩
    · show (wrB S.fb (p * 4096) bs).length = max S.fb.length _
      rw [hlw]
      congr 1; omega
    · have hpar : St.par { S with v := v', fb := wrB S.fb (p * 4096) bs } j = S.par j := by cases j <;> rfl
      rw [hpar]
      exact (hS.lv j hj).kept (fun i h1 h2 => hk'.block i (.inl ⟨h1, by omega⟩)) (fun i h1 _ => hto i h1)
    · show (wrB S.fb (p * 4096) bs).length ≤ 299008
      omega
  | succ k =>
    have hsz := (hS.lv k (by omega)).sz
    refine (bwrite tg w S k 4096 4096 (p * 4096) _ bs va vb hS (by omega) hV hr (Nat.le_refl _) (by omega) (by omega)).mono ?_
    rintro e w' ⟨rfl, tg', S', hW, hs⟩
    refine ⟨_, _, rfl, rfl, tg', S', ⟨hW.upd.gm, hW.upd.gz, hW.upd.t, hW.upd.up, hW.upd.b, fun _ => hW.upd.fb, fun j _ hj => hW.upd.sz j hj, fun j i hj => hW.upd.raw j i hj, fun i => ?_, fun j q _ hj => hW.upd.dirty j q hj, fun _ q => ?_, ?_⟩, hW.tags, hW.st, hW.kp⟩
    · rw [hW.raw, hbl]
      by_cases e : i / 4096 = p
      · rw [if_pos e, if_pos (by omega)]
        congr 1; omega
      · rw [if_neg e, if_neg (by omega)]
    · rw [hW.dirty, hbl]
      constructor
      · rintro (h | ⟨i, h1, h2, h3⟩)
        · exact .inl h
        · exact .inr (by omega)
      · rintro (h | h)
        · exact .inl h
        · exact .inr ⟨p * 4096, by omega, by omega, by omega⟩
    · show (S'.L (k + 1)).size = max (S.L (k + 1)).size _
      rw [hs, hbl]
      congr 1; omega

end Go.Proofs.YtkkliejgmgmebaaGreatDoor

namespace Go.Proofs.YtkkliejgmgmebaaGreatDoor
open Go.RowKit

/-- a page of a level is another one, in the same blocks -/
theorem LvIs.setPg {tg : Nat → Nat × Nat} {w w' : World} {k p : Nat} {par : Value} {L : Lv} {x y : Pg} (hl : LvIs tg w k par L) (hf : L.f p = some x) (hg : y.g = x.g) (hr : y.r = x.r) (hy : PageAt w' y)
    (hkp : ∀ j, j < w.heap.size → j ≠ x.g → j ≠ x.r → w'.heap[j]? = w.heap[j]?) : LvIs tg w' k par (L.set p y) := by
  obtain ⟨hx, tx, tr⟩ := hl.page p x hf
  obtain ⟨pd, hxc⟩ := hx.cell
  obtain ⟨-, -, cur, hxr⟩ := hx.row.own (k := x.r) rfl
  have nb1 : L.b ≠ x.g := fun e => by
    have := hl.cb
    rw [e, hxc] at this
    simp at this
  have nb2 : L.b ≠ x.r := fun e => by
    have := hl.cb
    rw [e, hxr] at this
    simp at this
  obtain ⟨es, c, hmm⟩ := hl.map.isMap
  have nm1 : L.m ≠ x.g := fun e => by rw [e, hxc] at hmm; cases hmm
  have nm2 : L.m ≠ x.r := fun e => by rw [e, hxr] at hmm; cases hmm
  refine ⟨(hkp _ hl.blt nb1 nb2).trans hl.cb, hl.tb, hl.tm, ?_, fun q z hz => ?_, hl.sz⟩
  · have e2 : (fun q => ((L.set p y).f q).map Pg.g) = fun q => (L.f q).map Pg.g := by
      funext q
      unfold Lv.set
      dsimp only
      split
      · rename_i eq
        subst eq
        rw [hf]
        simp [hg]
      · rfl
    show MapIs w' L.m (fun q => ((L.set p y).f q).map Pg.g)
    rw [e2]
    exact hl.map.kept (hkp _ hl.mlt nm1 nm2)
  · unfold Lv.set at hz
    dsimp only at hz
    split at hz
    · rename_i eq
      subst eq
      cases hz
      exact ⟨hy, by rw [hg]; exact tx, by rw [hr]; exact tr⟩
    · rename_i nq
      obtain ⟨h1, h2, h3⟩ := hl.page q z hz
      obtain ⟨pz, hzc⟩ := h1.cell
      obtain ⟨-, -, cz, hzr⟩ := h1.row.own (k := z.r) rfl
      have a1 : z.g ≠ x.g := fun e => by rw [e, tx] at h2; exact nq (Prod.ext_iff.1 h2).2.symm
      have a2 : z.g ≠ x.r := fun e => by rw [e, hxr] at hzc; simp at hzc
      have a3 : z.r ≠ x.r := fun e => by rw [e, tr] at h3; exact nq (Prod.ext_iff.1 h3).2.symm
      have a4 : z.r ≠ x.g := fun e => by rw [e, hxc] at hzr; simp at hzr
      exact ⟨h1.kept (hkp _ h1.glt a1 a2) (hkp _ h1.rlt a4 a3), h2, h3⟩

def Pg.key (x : Pg) : Nat × Nat × List UInt8 × Bool := (x.g, x.r, x.bs, x.dirty)

/-- the same pages, but for their links -/
structure SameL (L L' : Lv) : Prop where
  b : L'.b = L.b
  m : L'.m = L.m
  size : L'.size = L.size
  pg : ∀ p, (L'.f p).map Pg.key = (L.f p).map Pg.key

theorem SameL.hit {L L' : Lv} (h : SameL L L') {p : Nat} {x : Pg} (hx : L'.f p = some x) : ∃ y, L.f p = some y ∧ x.g = y.g ∧ x.r = y.r ∧ x.bs = y.bs ∧ x.dirty = y.dirty := by
  have := h.pg p
  rw [hx] at this
  cases hy : L.f p with
  | none => rw [hy] at this; cases this
  | some y =>
    rw [hy] at this
    simp only [Option.map_some, Option.some.injEq, Pg.key, Prod.mk.injEq] at this
    exact ⟨y, rfl, this.1, this.2.1, this.2.2.1, this.2.2.2⟩
theorem SameL.miss {L L' : Lv} (h : SameL L L') {p : Nat} (hx : L'.f p = none) : L.f p = none := by
  have := h.pg p
  rw [hx] at this
  cases hy : L.f p with
  | none => rfl
  | some y => rw [hy] at this; cases this

theorem SameL.set {L L' : Lv} (h : SameL L L') {p : Nat} {x y : Pg} (hx : L'.f p = some x) (hk : y.key = x.key) : SameL L (L'.set p y) := by
  refine ⟨h.b, h.m, h.size, fun q => ?_⟩
  rw [← h.pg q]
  unfold Lv.set
  dsimp only
  split
  · rename_i e
    subst e
    rw [hx]
    simp [hk]
  · rfl

/-- links lead to the neighbours -/
structure Linked (L : Lv) : Prop where
  pv : ∀ p x, L.f p = some x → x.pv = none ∨ ∃ q y, p = q + 1 ∧ L.f q = some y ∧ x.pv = some y.g ∧ y.nx = some x.g
  nx : ∀ p x, L.f p = some x → x.nx = none ∨ ∃ y, L.f (p + 1) = some y ∧ x.nx = some y.g

theorem Lv.Plain.linked {L : Lv} (h : L.Plain) : Linked L := ⟨fun p x hx => .inl (h p x hx).1, fun p x hx => .inl (h p x hx).2⟩

theorem set_f (L : Lv) (p q : Nat) (y : Pg) : (L.set p y).f q = if q = p then some y else L.f q := rfl

/-- two neighbours are linked -/
theorem Linked.link {L : Lv} (h : Linked L) {p : Nat} {x y : Pg} (hx : L.f p = some x) (hy : L.f (p + 1) = some y) :
    Linked ((L.set (p + 1) { y with pv := some x.g }).set p { x with nx := some y.g }) := by
  have fx : ∀ q, ((L.set (p + 1) { y with pv := some x.g }).set p { x with nx := some y.g }).f q = if q = p then some { x with nx := some y.g } else if q = p + 1 then some { y with pv := some x.g } else L.f q := fun q => rfl
  refine ⟨fun q z hz => ?_, fun q z hz => ?_⟩
  · rw [fx] at hz
    by_cases e : q = p
    · rw [if_pos e] at hz
      cases hz
      subst e
      rcases h.pv q x hx with h1 | ⟨q', y', e1, h1, h2, h3⟩
      · exact .inl h1
      · subst e1
        refine .inr ⟨q', y', rfl, ?_, h2, h3⟩
        rw [fx, if_neg (by omega), if_neg (by omega)]
        exact h1
    · rw [if_neg e] at hz
      by_cases e2 : q = p + 1
      · rw [if_pos e2] at hz
        cases hz
        exact .inr ⟨p, { x with nx := some y.g }, e2, by rw [fx, if_pos rfl], rfl, rfl⟩
      · rw [if_neg e2] at hz
        rcases h.pv q z hz with h1 | ⟨q', y', e1, h1, h2, h3⟩
        · exact .inl h1
        · by_cases e3 : q' = p + 1
          · subst e3
            rw [hy] at h1
            cases h1
            exact .inr ⟨p + 1, { y with pv := some x.g }, e1, by rw [fx, if_neg (by omega), if_pos rfl], h2, h3⟩
          · refine .inr ⟨q', y', e1, ?_, h2, h3⟩
            rw [fx, if_neg (by omega), if_neg e3]
            exact h1
  · rw [fx] at hz
    by_cases e : q = p
    · rw [if_pos e] at hz
      cases hz
      subst e
      exact .inr ⟨{ y with pv := some x.g }, by rw [fx, if_neg (by omega), if_pos rfl], rfl⟩
    · rw [if_neg e] at hz
      have old : ∀ (z' : Pg), L.f q = some z' → (z'.nx = none ∨ ∃ y', ((L.set (p + 1) { y with pv := some x.g }).set p { x with nx := some y.g }).f (q + 1) = some y' ∧ z'.nx = some y'.g) := by
        intro z' hz'
        rcases h.nx q z' hz' with h1 | ⟨y', h1, h2⟩
        · exact .inl h1
        · by_cases e3 : q + 1 = p
          · rw [e3, hx] at h1
            cases h1
            exact .inr ⟨{ x with nx := some y.g }, by rw [fx, if_pos e3], h2⟩
          · by_cases e4 : q + 1 = p + 1
            · omega
            · exact .inr ⟨y', by rw [fx, if_neg e3, if_neg e4]; exact h1, h2⟩
      by_cases e2 : q = p + 1
      · rw [if_pos e2] at hz
        cases hz
        subst e2
        exact old y hy
      · rw [if_neg e2] at hz
        exact old z hz

/-- a page's cell of links -/
theorem PageAt.setPv {w : World} {x : Pg} (h : PageAt w x) (g : Nat) : PageAt (w.setCell ⟨x.g, 0, none⟩ (.pointer (some ⟨g, 0, none⟩))) { x with pv := some g } := by
  obtain ⟨pd, hc⟩ := h.cell
  exact ⟨⟨pd, heap_set_same hc 0 _⟩, h.row.setOther hc (by decide) 0 _⟩
theorem PageAt.setNx {w : World} {x : Pg} (h : PageAt w x) (g : Nat) : PageAt (w.setCell ⟨x.g, 1, none⟩ (.pointer (some ⟨g, 0, none⟩))) { x with nx := some g } := by
  obtain ⟨pd, hc⟩ := h.cell
  exact ⟨⟨pd, heap_set_same hc 1 _⟩, h.row.setOther hc (by decide) 1 _⟩

structure frm94p (s0 s10 : Value) (a : Act) : Prop where
  df : a.defers = []
  sz : a.tmps.size = 43
  h0 : a.tmps.getD 0 undef = s0
  h10 : a.tmps.getD 10 undef = s10
set_option maxRecDepth 100000 in
theorem frm94 {s0 s10 : Value} {a : Act} (h : frm94p s0 s10 a) : ∃ u : Nat → Value, a = ⟨#[s0, u 1, u 2, u 3, u 4, u 5, u 6, u 7, u 8, u 9, s10, u 11, u 12, u 13, u 14, u 15, u 16, u 17, u 18, u 19, u 20, u 21, u 22, u 23, u 24, u 25, u 26, u 27, u 28, u 29, u 30, u 31, u 32, u 33, u 34, u 35, u 36, u 37, u 38, u 39, u 40, u 41, u 42], []⟩ := by
  obtain ⟨F, df⟩ := a
  obtain ⟨rfl, hs, rfl, rfl⟩ := h
  refine ⟨fun i => F.getD i undef, ?_⟩
  have e := open_frame F
  rw [hs] at e
  exact congrArg (Act.mk · []) e

/-- what link leaves -/
def LinkPost (tg : Nat → Nat × Nat) (w : World) (k : Nat) (par : Value) (L L' : Lv) (w' : World) : Prop :=
  LvIs tg w' k par L' ∧ Linked L' ∧ SameL L L' ∧ Keeps (fun j => j < w.heap.size ∧ (tg j).1 ≠ k) w w'

theorem LinkPost.step {tg : Nat → Nat × Nat} {w w1 : World} {k p : Nat} {par : Value} {L L' : Lv} {x y : Pg} (h : LinkPost tg w k par L L' w1) (hx : L'.f p = some x) (hy : L'.f (p + 1) = some y) :
    ∃ L'', LinkPost tg w k par L L'' ((w1.setCell ⟨y.g, 0, none⟩ (.pointer (some ⟨x.g, 0, none⟩))).setCell ⟨x.g, 1, none⟩ (.pointer (some ⟨y.g, 0, none⟩))) := by
  obtain ⟨hl, hk, hs, hkp⟩ := h
  obtain ⟨h1, h2, h3⟩ := hl.page p x hx
  obtain ⟨g1, g2, g3⟩ := hl.page (p + 1) y hy
  have nxy : x.g ≠ y.g := fun e => by
    rw [e, g2] at h2
    have := (Prod.ext_iff.1 h2).2
    simp at this
  have l1 := hl.setPg hy (y := { y with pv := some x.g }) rfl rfl (g1.setPv x.g) (fun j _ e1 _ => heap_set_other _ _ _ e1)
  have hx2 : (L'.set (p + 1) { y with pv := some x.g }).f p = some x := by rw [set_f, if_neg (by omega)]; exact hx
  have l2 := l1.setPg hx2 (y := { x with nx := some y.g }) rfl rfl ((l1.page p x hx2).1.setNx y.g) (fun j _ e1 _ => heap_set_other _ _ _ e1)
  refine ⟨_, l2, hk.link hx hy, (hs.set hy (y := { y with pv := some x.g }) rfl).set hx2 (y := { x with nx := some y.g }) rfl, (hkp.trans (Keeps.setCell (a := ⟨y.g, 0, none⟩) (fun h => ?_) _)).trans (Keeps.setCell (a := ⟨x.g, 1, none⟩) (fun h => ?_) _)⟩
  · exact h.2 (by show (tg y.g).1 = k; rw [g2])
  · exact h.2 (by show (tg x.g).1 = k; rw [h2])

set_option maxRecDepth 100000 in
set_option maxHeartbeats 4000000 in
theorem blink (tg : Nat → Nat × Nat) (w : World) (k : Nat) (par : Value) (L : Lv) (h : LvIs tg w k par L) (hpl : L.Plain) (hfree : (tg w.heap.size).1 ≠ k) :
    Calls Tryz.prog 94 #[.pointer (some ⟨L.b, 0, none⟩)] w fun e w' => e = .returned (.tuple #[]) ∧ ∃ L', LinkPost tg w k par L L' w' := by
  obtain ⟨-, x1, -⟩ := h.cell1
  obtain ⟨w1, cnt, hrun, hmr, hg, hs⟩ := h.map.range
  have hk1 : Keeps (Old w) w w1 := Keeps.grown (fun _ h => h) hg (fun _ e => by cases e)
  have hl1 : LinkPost tg w k par L L w1 := ⟨h.kept (fun j hj _ => hk1.block j hj) (fun _ _ _ => rfl), hpl.linked, ⟨rfl, rfl, rfl, fun _ => rfl⟩, hk1.mono fun j hj => hj.1⟩
  have hbl := h.blt
  have hml := h.mlt
  have HM := Lib.hid hmr
  have HL1 := Lib.hid hl1
  clear h hmr hk1 hg hl1
  go_enter Tryz.func94, Tryz.ntmps94
  (repeat (first | go_values | go_skip | go_guarded | go_step | go_upon))
  refine wp_loop_ghost (fun j a' w' => ∃ left L', frm94p (.pointer (some ⟨L.b, 0, none⟩)) (.pointer (some ⟨w.heap.size, 0, none⟩)) a' ∧ MRange w' L.m w.heap.size (fun p => (L.f p).map Pg.g) left j ∧ LinkPost tg w k par L L' w') cnt ⟨_, L, ⟨rfl, rfl, rfl, rfl⟩, HM.out, HL1.out⟩ ?_
  rintro j a' w' ⟨left, L', ha, hm, hL⟩
  obtain ⟨u, rfl⟩ := frm94 ha
  clear ha
  have HL := Lib.hid hL
  rcases hm.next 0 with ⟨-, hn⟩ | ⟨p, g, w2, cnt', -, hf, hn, hm2, hlt, hg2, hs2, hen⟩
  · clear hL hm
    (repeat (first | go_values | go_skip | go_guarded | go_step | go_upon))
    exact bodyPost_end (results_none rfl _ _ _) rfl ⟨rfl, L', HL.out⟩
  · have hmap : (fun p => (L'.f p).map Pg.g) = fun p => (L.f p).map Pg.g := by
      funext q
      cases hq : L'.f q with
      | none => rw [hL.2.2.1.miss hq]
      | some z =>
        obtain ⟨y, hy, e, -⟩ := hL.2.2.1.hit hq
        rw [hy]
        simp [e]
    have hil : ∀ i, i < w'.heap.size → (tg i).1 = k → w2.heap[i]? = w'.heap[i]? := fun i h1 h2 => hg2.block i h1 fun e => hfree (by rw [← Option.some.inj e]; exact h2)
    have hL2 : LinkPost tg w k par L L' w2 := ⟨hL.1.kept hil (fun _ _ _ => rfl), hL.2.1, hL.2.2.1, hL.2.2.2.trans (Keeps.grown (fun i hi => Nat.lt_of_lt_of_le hi.1 hL.2.2.2.size) hg2 fun i e hi => by have := Option.some.inj e; omega)⟩
    obtain ⟨x, hx, hxg⟩ : ∃ x, L'.f p = some x ∧ x.g = g := by
      cases hq : L'.f p with
      | none => rw [hL.2.2.1.miss hq] at hf; cases hf
      | some z =>
        obtain ⟨y, hy, e, -⟩ := hL.2.2.1.hit hq
        rw [hy] at hf
        exact ⟨z, rfl, e.trans (Option.some.inj hf)⟩
    subst hxg
    have eb := hL.2.2.1.b
    have em := hL.2.2.1.m
    obtain ⟨-, y1, -⟩ := hL2.1.cell1
    rw [eb, em] at y1
    have hp73 : p < 73 := hL.1.map.lt (p := p) (by rw [hx]; simp)
    have hlk := (hL2.1.map.look (p := p + 1) (by omega)).2
    rw [em] at hlk
    have HL2 := Lib.hid hL2
    have HM2 := Lib.hid hm2
    have w1 : ((p : Int) + 1) = ((p + 1 : Nat) : Int) := by omega
    cases hy : L'.f (p + 1) with
    | none =>
      rw [hy] at hlk
      simp only [Option.map_none, ptrO, Option.isSome_none] at hlk
      rw [← w1] at hlk
      clear hL hm hm2 hL2 hg2 w1
      (repeat (first | go_values | go_skip | go_guarded | go_step | go_upon))
      exact ⟨cnt', hlt, _, L', ⟨rfl, rfl, rfl, rfl⟩, HM2.out, HL2.out⟩
    | some y =>
      rw [hy] at hlk
      simp only [Option.map_some, ptrO, Option.isSome_some] at hlk
      rw [← w1] at hlk
      have hpy := (hL2.1.page (p + 1) y hy).1
      have hpx := (hL2.1.page p x hx).1
      obtain ⟨pdy, hcy⟩ := hpy.cell
      obtain ⟨pdx, hcx⟩ := hpx.cell
      have gy4 := (cells_at hcy).1 4
      have gy0 := (cells_at hcy).1 0
      have fy0 := (cells_at hcy).2 0
      have gx1 := (cells_at hcx).1 1
      have fx1 := (cells_at hcx).2 1
      simp only [List.getElem?_toArray, List.getElem?_cons_succ, List.getElem?_cons_zero] at gy4 gy0 gx1
      cases hd : y.dirty with
      | false =>
        rw [hd] at gy4
        clear hL hm hm2 hL2 hg2 w1 hpy hpx hcy hcx
        (repeat (first | go_values | go_skip | go_guarded | go_step | go_upon))
        exact ⟨cnt', hlt, _, L', ⟨rfl, rfl, rfl, rfl⟩, HM2.out, HL2.out⟩
      | true =>
        rw [hd] at gy4
        have hst := hL2.step hx hy
        have hm3 := hm2.kept (w' := ((w2.setCell ⟨y.g, 0, none⟩ (.pointer (some ⟨x.g, 0, none⟩))).setCell ⟨x.g, 1, none⟩ (.pointer (some ⟨y.g, 0, none⟩)))) (by
          obtain ⟨es, c, hmm⟩ := hm2.map.isMap
          rw [heap_set_other _ _ _ (fun e => by rw [show L.m = x.g from e, hcx] at hmm; cases hmm), heap_set_other _ _ _ (fun e => by rw [show L.m = y.g from e, hcy] at hmm; cases hmm)]) (by
          obtain ⟨_, _, _, _, hit⟩ := hm2.iter
          rw [heap_set_other _ _ _ (fun e => by rw [show w.heap.size = x.g from e, hcx] at hit; cases hit), heap_set_other _ _ _ (fun e => by rw [show w.heap.size = y.g from e, hcy] at hit; cases hit)])
        have HST := Lib.hid hst
        have HM3 := Lib.hid hm3
        have nxy : x.g ≠ y.g := fun e => by
          have h2 := (hL2.1.page p x hx).2.1
          have g2 := (hL2.1.page (p + 1) y hy).2.1
          rw [e, g2] at h2
          have := (Prod.ext_iff.1 h2).2
          simp at this
        clear hL hm hm2 hL2 hg2 w1 hpy hpx hcy hcx hst hm3
        (repeat (first | go_values | go_skip | go_guarded | go_step | go_upon))
        obtain ⟨L2, hL3⟩ := HST.out
        exact ⟨cnt', hlt, _, L2, ⟨rfl, rfl, rfl, rfl⟩, HM3.out, hL3⟩

end Go.Proofs.YtkkliejgmgmebaaGreatDoor
