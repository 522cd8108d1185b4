/-
  bitFiler.dumpDirty.
-/
import Derived.Test.YtkkliejgmgmebaaGreatDoorRf
namespace Go.Proofs.YtkkliejgmgmebaaGreatDoor
open Go.RowKit

theorem clean_none (L : Lv) : L.clean (fun _ => false) = L := by
  unfold Lv.clean
  have e : (fun p => (L.f p).map fun x => { x with dirty := x.dirty && !false }) = L.f := by
    funext p
    cases L.f p with
    | none => rfl
    | some x => simp
  rw [e]

theorem SameL.byte {L L' : Lv} (h : SameL L L') (i : Nat) : L'.byte i = L.byte i := by
  unfold Lv.byte
  cases hx : L'.f (i / 4096) with
  | none => rw [h.miss hx]
  | some x =>
    obtain ⟨y, hy, -, -, e, -⟩ := h.hit hx
    rw [hy]
    dsimp only
    rw [e]

theorem SameL.dirty {L L' : Lv} (h : SameL L L') (p : Nat) : (∃ x, L'.f p = some x ∧ x.dirty = true) ↔ ∃ x, L.f p = some x ∧ x.dirty = true := by
  constructor
  · rintro ⟨x, hx, hd⟩
    obtain ⟨y, hy, -, -, -, e⟩ := h.hit hx
    exact ⟨y, hy, by rw [← e]; exact hd⟩
  · rintro ⟨y, hy, hd⟩
    cases hx : L'.f p with
    | none => rw [h.miss hx] at hy; cases hy
    | some x =>
      obtain ⟨z, hz, -, -, -, e⟩ := h.hit hx
      rw [hy] at hz
      cases hz
      exact ⟨x, rfl, by rw [e]; exact hd⟩

/-- what dumpDirty leaves -/
structure DumpPost (tg : Nat → Nat × Nat) (w : World) (k : Nat) (S : St) (L : Lv) (W : Nat → Bool) (tg' : Nat → Nat × Nat) (S' : St) (w' : World) : Prop where
  acc : PAcc k S S' L W
  wd : ∀ p, W p = true ↔ ∃ x, L.f p = some x ∧ x.dirty = true
  tags : ∀ j, j < w.heap.size → tg' j = tg j
  st : StIs tg' w' S'
  lv : ∃ L', LvIs tg' w' (k + 1) (S.par k) L' ∧ L'.b = L.b ∧ L'.size = L.size
  kp : Keeps (fun j => j < w.heap.size ∧ k + 1 < (tg j).1) w w'

structure fro71p (s0 s1 s4 s5 s16 : Value) (a : Act) : Prop where
  df : a.defers = []
  sz : a.tmps.size = 83
  h0 : a.tmps.getD 0 undef = s0
  h1 : a.tmps.getD 1 undef = s1
  h4 : a.tmps.getD 4 undef = s4
  h5 : a.tmps.getD 5 undef = s5
  h16 : a.tmps.getD 16 undef = s16
set_option maxRecDepth 100000 in
theorem fro71 {s0 s1 s4 s5 s16 : Value} {a : Act} (h : fro71p s0 s1 s4 s5 s16 a) : ∃ u : Nat → Value, a = ⟨#[s0, s1, u 2, u 3, s4, s5, u 6, u 7, u 8, u 9, u 10, u 11, u 12, u 13, u 14, u 15, s16, u 17, u 18, u 19, u 20, u 21, u 22, u 23, u 24, u 25, u 26, u 27, u 28, u 29, u 30, u 31, u 32, u 33, u 34, u 35, u 36, u 37, u 38, u 39, u 40, u 41, u 42, u 43, u 44, u 45, u 46, u 47, u 48, u 49, u 50, u 51, u 52, u 53, u 54, u 55, u 56, u 57, u 58, u 59, u 60, u 61, u 62, u 63, u 64, u 65, u 66, u 67, u 68, u 69, u 70, u 71, u 72, u 73, u 74, u 75, u 76, u 77, u 78, u 79, u 80, u 81, u 82], []⟩ := by
  obtain ⟨F, df⟩ := a
  obtain ⟨rfl, hs, rfl, rfl, rfl, rfl, rfl⟩ := h
  refine ⟨fun i => F.getD i undef, ?_⟩
  have e := open_frame F
  rw [hs] at e
  exact congrArg (Act.mk · []) e

set_option maxRecDepth 100000 in
set_option maxHeartbeats 8000000 in
theorem dd_loop (Q0 : Exit → Act → World → Prop) (tg0 : Nat → Nat × Nat) (w0 : World) (k : Nat) (S0 : St) (L : Lv) (it cnt0 : Nat) (va vb : Addr) (s0 : Value) (A : Act)
    (hV : VarsO tg0 w0 va vb) (hk : k = S0.t) (hk30 : k + 1 ≤ 30) (hD : Dump tg0 w0 it k S0 L (fun _ => false) tg0 S0 w0) (hL : Linked L) (hit : it < w0.heap.size) (hit2 : k + 1 < (tg0 it).1) (hit3 : (tg0 it).1 < 1000) (hM : MRange w0 L.m it (fun p => (L.f p).map Pg.g) (fun p => ((L.f p).map Pg.g).isSome) cnt0)
    (hA : fro71p s0 (S0.par k) (.int .i64 0) .nilIface (.pointer (some ⟨it, 0, none⟩)) A)
    (hexit : ∀ (a' : Act) (w' : World) (W : Nat → Bool) (tg : Nat → Nat × Nat) (S : St), fro71p s0 (S0.par k) (.int .i64 (cntW W : Int)) .nilIface (.pointer (some ⟨it, 0, none⟩)) a' → Dump tg0 w0 it k S0 L W tg S w' → (∀ p x, L.f p = some x → x.dirty = true → W p = true) → Q0 (.exit 0) a' w') :
    Code.wp Tryz.prog (Code.loop body71) Q0 A w0 := by
  refine wp_loop_ghost (fun j a' w' => ∃ (W : Nat → Bool) (tg : Nat → Nat × Nat) (S : St) (left : Nat → Bool), fro71p s0 (S0.par k) (.int .i64 (cntW W : Int)) .nilIface (.pointer (some ⟨it, 0, none⟩)) a' ∧
    Dump tg0 w0 it k S0 L W tg S w' ∧ MRange w' L.m it (fun p => (L.f p).map Pg.g) left j ∧ ∀ p x, L.f p = some x → x.dirty = true → left p = false → W p = true) cnt0
    ⟨fun _ => false, tg0, S0, _, hA, hD, hM, fun p x hx _ h => by simp [hx] at h⟩ ?_
  rintro j a' w' ⟨W, tg, S, left, ha, hD, hM, hv⟩
  obtain ⟨u, rfl⟩ := fro71 ha
  clear ha hA
  conv => arg 2; whnf
  have HE := Lib.hid hexit
  have HDD := Lib.hid hD
  have HV := Lib.hid hv
  rcases hM.next 0 with ⟨h0, hn⟩ | ⟨p, g, w2, cnt', hlp, hf, hn, hm2, hlt, hg2, hs2, hen⟩
  · clear hD hM hexit hv hV hk
    (repeat (first | go_values | go_skip | go_guarded | go_step | go_upon))
    exact HE.out _ _ _ _ _ ⟨rfl, rfl, rfl, rfl, rfl, rfl, rfl⟩ HDD.out fun p x hx hd => HV.out p x hx hd (h0 p)
  · obtain ⟨x, hx, hxg⟩ : ∃ x, L.f p = some x ∧ x.g = g := by
      cases hq : L.f p with
      | none => rw [hq] at hf; cases hf
      | some z =>
        rw [hq] at hf
        exact ⟨z, rfl, Option.some.inj hf⟩
    subst hxg
    have hitw : it < w'.heap.size := Nat.lt_of_lt_of_le hit hD.kp.size
    have hitt : tg it = tg0 it := hD.tags it hit
    have htt : S.t ≤ k := by rw [hD.acc.t]; omega
    have kept : ∀ i, i < w'.heap.size → (tg i).1 ≤ k + 1 → w2.heap[i]? = w'.heap[i]? := fun i h1 h2 => hg2.block i h1 fun e => by
      have e' := Option.some.inj e
      subst e'
      rw [hitt] at h2
      omega
    have hD2 : Dump tg0 w0 it k S0 L W tg S w2 := by
      refine ⟨hD.lv.kept (fun i h1 h2 => kept i h1 (by omega)) (fun _ _ _ => rfl), hD.st.kept (fun i h1 h2 => kept i h1 (by omega)) (fun _ _ _ => rfl), hD.acc, hD.wd, hD.tags, ?_⟩
      exact hD.kp.trans (Keeps.grown (fun i hi => Nat.lt_of_lt_of_le hi.1 hD.kp.size) hg2 fun i e hi => hi.2.2 (Option.some.inj e).symm)
    have hcf := clean_f L W hx
    obtain ⟨pd, hc⟩ := (hD2.lv.page p _ hcf).1.cell
    have z4 := (cells_at hc).1 4
    simp only [List.getElem?_toArray, List.getElem?_cons_succ, List.getElem?_cons_zero] at z4
    obtain ⟨dz, hdz⟩ : ∃ dz, (x.dirty && !W p) = dz := ⟨_, rfl⟩
    rw [hdz] at z4
    have HD2 := Lib.hid hD2
    have HM2 := Lib.hid hm2
    cases dz with
    | false =>
      clear hD hM hexit hv hV hm2 hD2 hg2 hc hk
      (repeat (first | go_values | go_skip | go_guarded | go_step | go_upon))
      refine ⟨cnt', hlt, W, tg, S, _, ⟨rfl, rfl, rfl, rfl, rfl, rfl, rfl⟩, HD2.out, HM2.out, fun q y hy hd hl => ?_⟩
      by_cases e : q = p
      · subst e
        rw [hx] at hy
        cases hy
        rw [hd] at hdz
        simpa using hdz
      · simp only [e, ne_eq, not_false_eq_true, decide_true, Bool.and_true] at hl
        exact HV.out q y hy hd hl
    | true =>
      simp only [Bool.and_eq_true, Bool.not_eq_true'] at hdz
      obtain ⟨zd, zw⟩ := hdz
      have LB := Lib.hid (fun Q0 s0 s1 s4 s5 s16 A hA hx' => dd_back Q0 tg0 w0 it k S0 L W tg S w2 p x s0 s1 s4 s5 s16 A hD2 hL hx zd zw hA hx')
      have LF := Lib.hid (fun Q0 q1 y A hy hq hC hA hx' => dd_forth Q0 tg0 w0 k S0 L W tg S w2 p q1 it y _ cnt' va vb s0 A hV hk hk30 hD2 hL hit hit2 hit3 hm2 hy hq hC hA hx')
      clear hD hM hexit hv hV hm2 hD2 hg2 hc hk
      (repeat (first | go_values | go_skip | go_guarded | go_step | go_upon))
      refine LB.out _ _ _ _ _ _ _ ⟨rfl, rfl, rfl, rfl, rfl, rfl, rfl, rfl, rfl⟩ ?_
      intro a2 q y ha2 hq hy hC
      obtain ⟨u2, rfl⟩ := frm71 ha2
      clear ha2 LB
      simp only [Exit.inBlock, ↓reduceIte]
      (repeat (first | go_values | go_skip | go_guarded | go_step | go_upon))
      refine LF.out _ q y _ hy hq hC ⟨rfl, rfl, rfl, rfl, rfl, rfl, rfl, rfl, rfl⟩ ?_
      intro a3 w3 W3 tg3 S3 s6 s7 ha3 hD3 hM3 hW3 hp3
      obtain ⟨u3, rfl⟩ := frm71 ha3
      have HD3 := Lib.hid hD3
      have HM3 := Lib.hid hM3
      have HW3 := Lib.hid hW3
      clear ha3 LF hD3 hM3 hC hW3
      simp only [Exit.inBlock, ↓reduceIte]
      (repeat (first | go_values | go_skip | go_guarded | go_step | go_upon))
      refine ⟨cnt', hlt, W3, tg3, S3, _, ⟨rfl, rfl, rfl, rfl, rfl, rfl, rfl⟩, HD3.out, HM3.out, fun q y hy hd hl => ?_⟩
      by_cases e : q = p
      · subst e
        exact hp3
      · simp only [e, ne_eq, not_false_eq_true, decide_true, Bool.and_true] at hl
        exact HW3.out q (HV.out q y hy hd hl)

set_option maxRecDepth 100000 in
set_option maxHeartbeats 4000000 in
/-- A LEVEL IS WRITTEN to the one beneath. -/
theorem bdump (tg : Nat → Nat × Nat) (w : World) (k : Nat) (S : St) (L : Lv) (va vb : Addr) (hS : StIs tg w S) (hk : k = S.t) (hk30 : k + 1 ≤ 30) (hl : LvIs tg w (k + 1) (S.par k) L) (hpl : L.Plain) (hV : VarsO tg w va vb) :
    Calls Tryz.prog 71 #[.pointer (some ⟨L.b, 0, none⟩), S.par k] w fun e w' => ∃ W tg' S', e = .returned (.tuple #[.int .i64 (cntW W : Int), .nilIface]) ∧ DumpPost tg w k S L W tg' S' w' := by
  obtain ⟨tg1, t1o, t1n⟩ : ∃ tg1 : Nat → Nat × Nat, (∀ j, j < w.heap.size → tg1 j = tg j) ∧ ∀ j, ¬ j < w.heap.size → tg1 j = (500, 0) := ⟨fun j => if j < w.heap.size then tg j else (500, 0), fun j h => if_pos h, fun j h => if_neg h⟩
  have hl1 : LvIs tg1 w (k + 1) (S.par k) L := hl.kept (fun _ _ _ => rfl) (fun j h _ => t1o j h)
  have LK := Lib.hid (blink tg1 w (k + 1) (S.par k) L hl1 hpl (by rw [t1n _ (Nat.lt_irrefl _)]; show 500 ≠ k + 1; omega))
  have hS1 : StIs tg1 w S := hS.kept (fun _ _ _ => rfl) (fun j h _ => t1o j h)
  have hV1 : VarsO tg1 w va vb := hV.mono fun j hj => ⟨hj.1, by rw [t1o j hj.1]; exact hj.2⟩
  have post : ∀ L1 w1 w2 cnt, LinkPost tg1 w (k + 1) (S.par k) L L1 w1 → MRange w2 L1.m w1.heap.size (fun p => (L1.f p).map Pg.g) (fun p => ((L1.f p).map Pg.g).isSome) cnt → w1.grownBy w2 none → w2.heap.size = w1.heap.size + 1 →
      ∀ (Q0 : Exit → Act → World → Prop) (s0 : Value) (A : Act), fro71p s0 (S.par k) (.int .i64 0) .nilIface (.pointer (some ⟨w1.heap.size, 0, none⟩)) A →
        (∀ (a' : Act) (w' : World) (W : Nat → Bool) (tg' : Nat → Nat × Nat) (S' : St), fro71p s0 (S.par k) (.int .i64 (cntW W : Int)) .nilIface (.pointer (some ⟨w1.heap.size, 0, none⟩)) a' → DumpPost tg w k S L W tg' S' w' → Q0 (.exit 0) a' w') →
        Code.wp Tryz.prog (Code.loop body71) Q0 A w2 := by
    intro L1 w1 w2 cnt hLP hM hg hsz Q0 s0 A hA hx
    obtain ⟨l1, lk, ls, lkp⟩ := hLP
    have hw12 : ∀ j, j < w1.heap.size → w2.heap[j]? = w1.heap[j]? := fun j h => hg.block j h (fun e => by cases e)
    have hst1 : StIs tg1 w1 S := hS1.kept (fun j h1 h2 => lkp.block j ⟨h1, by omega⟩) (fun _ _ _ => rfl)
    have hst2 : StIs tg1 w2 S := hst1.kept (fun j h1 _ => hw12 j h1) (fun _ _ _ => rfl)
    have hl2 : LvIs tg1 w2 (k + 1) (S.par k) L1 := l1.kept (fun j h1 _ => hw12 j h1) (fun _ _ _ => rfl)
    have hk12 : Keeps (fun j => j < w1.heap.size) w1 w2 := ⟨hg.os, hg.tape, hg.output, hg.size, fun j h => hw12 j h⟩
    have hV2 : VarsO tg1 w2 va vb := by
      have h1 := hV1.keeps (lkp.mono fun j (hj : j < w.heap.size ∧ 1000 ≤ (tg1 j).1) => ⟨hj.1, by omega⟩)
      have h2 := h1.keeps (hk12.mono fun j (hj : j < w.heap.size ∧ 1000 ≤ (tg1 j).1) => Nat.lt_of_lt_of_le hj.1 lkp.size)
      exact h2.mono fun j hj => ⟨by have := lkp.size; have := hj.1; omega, hj.2⟩
    have hit : tg1 w1.heap.size = (500, 0) := t1n _ (by have := lkp.size; omega)
    refine dd_loop Q0 tg1 w2 k S L1 w1.heap.size cnt va vb s0 A hV2 hk hk30 ⟨by rw [clean_none]; exact hl2, hst2, PAcc.start k S L1, fun p h => (by cases h), fun _ _ => rfl, Keeps.refl _ _⟩ lk (by omega) (by rw [hit]; show k + 1 < 500; omega) (by rw [hit]; show 500 < 1000; omega) hM hA ?_
    intro a' w' W tg' S' ha' hD hall
    refine hx a' w' W tg' S' ha' ⟨⟨hD.acc.gm, hD.acc.gz, hD.acc.t, hD.acc.up, hD.acc.b, hD.acc.fb, hD.acc.sz, hD.acc.rawlo, fun i => ?_, hD.acc.dirtyo, hD.acc.dirty, hD.acc.same⟩, fun p => ?_, fun j hj => (hD.tags j (by have := lkp.size; omega)).trans (t1o j hj), hD.st, ⟨_, hD.lv, ls.b, ls.size⟩, ?_⟩
    · rw [hD.acc.raw, ls.byte]
    · rw [← ls.dirty p]
      exact ⟨fun h => hD.wd p h, fun ⟨x, hx, hd⟩ => hall p x hx hd⟩
    · have hsl := lkp.size
      exact ((lkp.mono fun j hj => ⟨hj.1, by rw [t1o j hj.1]; omega⟩).trans (hk12.mono fun j hj => by omega)).trans (hD.kp.mono fun j hj => ⟨by omega, by rw [t1o j hj.1]; exact hj.2, by omega⟩)
  have POST := Lib.hid post
  clear post hS hl hl1 hS1 hV hV1 hk
  go_enter Tryz.func71, Tryz.ntmps71
  (repeat (first | go_values | go_skip | go_guarded | go_step | go_upon))
  refine LK.out.mono ?_
  rintro e w1 ⟨rfl, L1, hLP⟩
  obtain ⟨-, x1, -⟩ := hLP.1.cell1
  rw [hLP.2.2.1.b] at x1
  obtain ⟨w2, cnt, hrun, hM, hg, hsz⟩ := hLP.1.map.range
  have LP := Lib.hid (POST.out L1 w1 w2 cnt hLP hM hg hsz)
  clear hLP hM hg POST LK
  dsimp only
  (repeat (first | go_values | go_skip | go_guarded | go_step | go_upon))
  refine LP.out _ _ _ ⟨rfl, rfl, rfl, rfl, rfl, rfl, rfl⟩ ?_
  intro a' w' W tg' S' ha' hP
  obtain ⟨u', rfl⟩ := fro71 ha'
  have HP := Lib.hid hP
  clear ha' hP LP
  simp only [Exit.inBlock, ↓reduceIte]
  (repeat (first | go_values | go_skip | go_guarded | go_step | go_upon))
  go_ret2
  exact ⟨W, tg', S', rfl, HP.out⟩

end Go.Proofs.YtkkliejgmgmebaaGreatDoor

namespace Go.Proofs.YtkkliejgmgmebaaGreatDoor
open Go.RowKit

def szFn : Nat → FuncId
  | 0 => 122
  | _ + 1 => 74

theorem nil_ahead_sM (a : Addr) (w : World) : (nilAhead 280 68 (.pointer (some a)) "Size").run Tryz.prog w = .ok (some false) w := by kernel_rfl
theorem method_sM (a : Addr) (w : World) : (method 280 68 (.pointer (some a)) "Size").run Tryz.prog w = .ok (122, .pointer (some a)) w := by kernel_rfl
theorem nil_ahead_sB (a : Addr) (w : World) : (nilAhead 280 105 (.pointer (some a)) "Size").run Tryz.prog w = .ok (some false) w := by kernel_rfl
theorem method_sB (a : Addr) (w : World) : (method 280 105 (.pointer (some a)) "Size").run Tryz.prog w = .ok (74, .pointer (some a)) w := by kernel_rfl
theorem nil_ahead_s (k : Nat) (a : Addr) (w : World) : (nilAhead 280 (parT k) (.pointer (some a)) "Size").run Tryz.prog w = .ok (some false) w := by
  cases k with
  | zero => exact nil_ahead_sM a w
  | succ k => exact nil_ahead_sB a w
theorem method_s (k : Nat) (a : Addr) (w : World) : (method 280 (parT k) (.pointer (some a)) "Size").run Tryz.prog w = .ok (szFn k, .pointer (some a)) w := by
  cases k with
  | zero => exact method_sM a w
  | succ k => exact method_sB a w

theorem callFunc_s (k : Nat) (args : Array Value) (w : World) : (callFunc (szFn k) args).run Tryz.prog w = .ok (.enter (szFn k) args) w := by
  cases k with
  | zero => show (callFunc 122 args).run Tryz.prog w = .ok (.enter 122 args) w; kernel_rfl
  | succ k => show (callFunc 74 args).run Tryz.prog w = .ok (.enter 74 args) w; kernel_rfl

theorem psize {tg : Nat → Nat × Nat} {w : World} {S : St} (h : StIs tg w S) (k : Nat) (hk : k ≤ S.t) :
    Calls Tryz.prog (szFn k) #[.pointer (some (S.ptr k))] w fun e w' => e = .returned (.tuple #[.int .i64 (S.size k : Int), .nilIface]) ∧ w' = w := by
  cases k with
  | zero => exact msize_any _ w S.gm S.gz S.v S.fb h.mem.c0 h.mem.zis
  | succ k => exact bsize_any w _ _ ((h.lv k (by omega)).cell1).2.2

/-- a new level over the others -/
def St.push (S : St) (b m : Nat) : St := { S with t := S.t + 1, L := fun j => if j = S.t + 1 then ⟨b, m, S.size S.t, fun _ => none⟩ else S.L j }

theorem St.push_lo (S : St) (b m : Nat) : ∀ j, j ≤ S.t → (∀ i, (S.push b m).raw j i = S.raw j i) ∧ (S.push b m).size j = S.size j ∧ (S.push b m).par j = S.par j
  | 0, _ => ⟨fun _ => rfl, rfl, rfl⟩
  | j + 1, h => by
    obtain ⟨h1, h2, h3⟩ := St.push_lo S b m j (by omega)
    have e : (S.push b m).L (j + 1) = S.L (j + 1) := if_neg (by omega)
    refine ⟨fun i => ?_, ?_, ?_⟩
    · unfold St.raw
      rw [e, h1 i, h2]
    · show ((S.push b m).L (j + 1)).size = _
      rw [e]; rfl
    · show Value.iface _ (.pointer (some ⟨((S.push b m).L (j + 1)).b, 0, none⟩)) = _
      rw [e]; rfl

theorem St.push_top (S : St) (b m : Nat) : (S.push b m).L (S.t + 1) = ⟨b, m, S.size S.t, fun _ => none⟩ := if_pos rfl

set_option maxRecDepth 100000 in
set_option maxHeartbeats 4000000 in
theorem newBit (tg : Nat → Nat × Nat) (w : World) (S : St) (hS : StIs tg w S) (ht : S.t < 30) :
    Calls Tryz.prog 69 #[S.par S.t] w fun e w' => e = .returned (.tuple #[.pointer (some ⟨w.heap.size + 1, 0, none⟩), .nilIface]) ∧ ∃ tg', StIs tg' w' (S.push (w.heap.size + 1) w.heap.size) ∧ (∀ j, j < w.heap.size → tg' j = tg j) ∧ Keeps (Old w) w w' := by
  have hc := psize hS S.t (Nat.le_refl _)
  have hsz : S.size S.t ≤ 299008 := by
    cases h : S.t with
    | zero => exact hS.fb
    | succ k => exact (hS.lv k (by omega)).sz
  obtain ⟨sz, hs⟩ : ∃ sz, S.size S.t = sz := ⟨_, rfl⟩
  have fin : ∃ tg', StIs tg' ((w.alloc (.map #[] 0)).alloc (.cells #[S.par S.t, .map (some w.heap.size), .int .i64 (sz : Int)] 140)) (S.push (w.heap.size + 1) w.heap.size) ∧ (∀ j, j < w.heap.size → tg' j = tg j) ∧ Keeps (Old w) w ((w.alloc (.map #[] 0)).alloc (.cells #[S.par S.t, .map (some w.heap.size), .int .i64 (sz : Int)] 140)) := by
    have hm1 := MapIs.made w
    have s1 : (w.alloc (.map #[] 0)).heap.size = w.heap.size + 1 := by simp
    have k1 : Keeps (Old w) w (w.alloc (.map #[] 0)) := Keeps.alloc (fun _ h => h) _
    generalize w.alloc (.map #[] 0) = w1 at *
    have hb := heap_alloc_at w1 (.cells #[S.par S.t, .map (some w.heap.size), .int .i64 (sz : Int)] 140) s1.symm
    have k2 := k1.trans (Keeps.alloc (w := w1) (fun j (hj : j < w.heap.size) => by omega) (.cells #[S.par S.t, .map (some w.heap.size), .int .i64 (sz : Int)] 140))
    have hm2 := hm1.kept (w' := w1.alloc (.cells #[S.par S.t, .map (some w.heap.size), .int .i64 (sz : Int)] 140)) (heap_alloc_lt w1 _ (by omega))
    generalize w1.alloc (.cells #[S.par S.t, .map (some w.heap.size), .int .i64 (sz : Int)] 140) = w2 at *
    refine ⟨fun j => if j < w.heap.size then tg j else (S.t + 1, 0), ⟨?_, fun k hk => ?_, hS.fb, by show S.t + 1 ≤ 30; omega, fun k hk p x hx => ?_⟩, fun j hj => if_pos hj, k2⟩
    · exact hS.mem.retag (fun j h1 _ => k2.block j h1) (fun j h1 _ => if_pos h1)
    · have hk' : k < S.t + 1 := hk
      rw [(St.push_lo S _ _ k (by omega)).2.2]
      by_cases e : k = S.t
      · subst e
        rw [St.push_top, hs]
        refine ⟨hb, ?_, ?_, hm2, fun p x hx => (by cases hx), (by rw [← hs]; exact hsz)⟩
        · show (if w.heap.size + 1 < w.heap.size then tg (w.heap.size + 1) else (S.t + 1, 0)).1 = S.t + 1
          rw [if_neg (by omega)]
        · show (if w.heap.size < w.heap.size then tg w.heap.size else (S.t + 1, 0)).1 = S.t + 1
          rw [if_neg (by omega)]
      · rw [show (S.push (w.heap.size + 1) w.heap.size).L (k + 1) = S.L (k + 1) from if_neg (by omega)]
        exact (hS.lv k (by omega)).kept (fun j h1 _ => k2.block j h1) (fun j h1 _ => if_pos h1)
    · have hk' : k < S.t + 1 := hk
      by_cases e : k = S.t
      · subst e
        rw [St.push_top] at hx
        cases hx
      · rw [show (S.push (w.heap.size + 1) w.heap.size).L (k + 1) = S.L (k + 1) from if_neg (by omega)] at hx
        exact hS.pl k (by omega) p x hx
  have FIN := Lib.hid fin
  have HC := Lib.hid hc
  rw [hs] at HC
  rw [St.par_eq] at *
  have na := nil_ahead_s S.t (S.ptr S.t)
  have me := method_s S.t (S.ptr S.t)
  have cf := callFunc_s S.t
  have hmm := @run_makeMap Tryz.prog
  have q5 := neq_nil_nil
  clear fin hc hS hsz ht
  go_enter Tryz.func69, Tryz.ntmps69
  (repeat (first | go_values | go_skip | go_guarded | go_step | go_upon))
  refine HC.out.mono ?_
  rintro e w' ⟨rfl, rfl⟩
  dsimp only
  (repeat (first | go_values | go_skip | go_guarded | go_step | go_upon))
  go_ret2
  exact ⟨rfl, FIN.out⟩

end Go.Proofs.YtkkliejgmgmebaaGreatDoor
