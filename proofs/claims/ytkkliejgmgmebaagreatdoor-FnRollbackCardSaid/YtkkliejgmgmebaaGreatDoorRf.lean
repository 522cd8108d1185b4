/-
  bitFiler.dumpDirty: the region that writes a page.
-/
import Derived.Test.YtkkliejgmgmebaaGreatDoorRe
namespace Go.Proofs.YtkkliejgmgmebaaGreatDoor
open Go.RowKit

noncomputable def reg71_10 : Code := ((Tryz.f71.body.bind (regionOf 10)).getD .skip)

structure frm71p (s0 s1 s4 s5 s6 s7 s16 : Value) (a : Act) : Prop where
  df : a.defers = []
  sz : a.tmps.size = 83
  h0 : a.tmps.getD 0 undef = s0
  h1 : a.tmps.getD 1 undef = s1
  h4 : a.tmps.getD 4 undef = s4
  h5 : a.tmps.getD 5 undef = s5
  h6 : a.tmps.getD 6 undef = s6
  h7 : a.tmps.getD 7 undef = s7
  h16 : a.tmps.getD 16 undef = s16
set_option maxRecDepth 100000 in
theorem frm71 {s0 s1 s4 s5 s6 s7 s16 : Value} {a : Act} (h : frm71p s0 s1 s4 s5 s6 s7 s16 a) : ∃ u : Nat → Value, a = ⟨#[s0, s1, u 2, u 3, s4, s5, s6, s7, u 8, u 9, u 10, u 11, u 12, u 13, u 14, u 15, s16, u 17, u 18, u 19, u 20, u 21, u 22, u 23, u 24, u 25, u 26, u 27, u 28, u 29, u 30, u 31, u 32, u 33, u 34, u 35, u 36, u 37, u 38, u 39, u 40, u 41, u 42, u 43, u 44, u 45, u 46, u 47, u 48, u 49, u 50, u 51, u 52, u 53, u 54, u 55, u 56, u 57, u 58, u 59, u 60, u 61, u 62, u 63, u 64, u 65, u 66, u 67, u 68, u 69, u 70, u 71, u 72, u 73, u 74, u 75, u 76, u 77, u 78, u 79, u 80, u 81, u 82], []⟩ := by
  obtain ⟨F, df⟩ := a
  obtain ⟨rfl, hs, rfl, rfl, rfl, rfl, rfl, rfl, rfl⟩ := h
  refine ⟨fun i => F.getD i undef, ?_⟩
  have e := open_frame F
  rw [hs] at e
  exact congrArg (Act.mk · []) e

structure frw71p (s0 s1 s4 s5 s6 s7 s9 s16 : Value) (a : Act) : Prop where
  df : a.defers = []
  sz : a.tmps.size = 83
  h0 : a.tmps.getD 0 undef = s0
  h1 : a.tmps.getD 1 undef = s1
  h4 : a.tmps.getD 4 undef = s4
  h5 : a.tmps.getD 5 undef = s5
  h6 : a.tmps.getD 6 undef = s6
  h7 : a.tmps.getD 7 undef = s7
  h9 : a.tmps.getD 9 undef = s9
  h16 : a.tmps.getD 16 undef = s16
set_option maxRecDepth 100000 in
theorem frw71 {s0 s1 s4 s5 s6 s7 s9 s16 : Value} {a : Act} (h : frw71p s0 s1 s4 s5 s6 s7 s9 s16 a) : ∃ u : Nat → Value, a = ⟨#[s0, s1, u 2, u 3, s4, s5, s6, s7, u 8, s9, u 10, u 11, u 12, u 13, u 14, u 15, s16, u 17, u 18, u 19, u 20, u 21, u 22, u 23, u 24, u 25, u 26, u 27, u 28, u 29, u 30, u 31, u 32, u 33, u 34, u 35, u 36, u 37, u 38, u 39, u 40, u 41, u 42, u 43, u 44, u 45, u 46, u 47, u 48, u 49, u 50, u 51, u 52, u 53, u 54, u 55, u 56, u 57, u 58, u 59, u 60, u 61, u 62, u 63, u 64, u 65, u 66, u 67, u 68, u 69, u 70, u 71, u 72, u 73, u 74, u 75, u 76, u 77, u 78, u 79, u 80, u 81, u 82], []⟩ := by
  obtain ⟨F, df⟩ := a
  obtain ⟨rfl, hs, rfl, rfl, rfl, rfl, rfl, rfl, rfl, rfl⟩ := h
  refine ⟨fun i => F.getD i undef, ?_⟩
  have e := open_frame F
  rw [hs] at e
  exact congrArg (Act.mk · []) e

theorem nil_ahead_wB (a : Addr) (w : World) : (nilAhead 280 105 (.pointer (some a)) "WriteAt").run Tryz.prog w = .ok (some false) w := by kernel_rfl
theorem method_wB (a : Addr) (w : World) : (method 280 105 (.pointer (some a)) "WriteAt").run Tryz.prog w = .ok (81, .pointer (some a)) w := by kernel_rfl

set_option maxRecDepth 100000 in
set_option maxHeartbeats 4000000 in
theorem dd10_M (g r p q : Nat) (pa : Addr) (s0 s4 s5 s16 : Value) (w : World) (u : Nat → Value) (R : Value → Value → World → Prop)
    (c3 : w.cell? ⟨g, 3, none⟩ = some (.slice (some ⟨r, 0, none⟩) 4096 4096)) (hsh : IntKind.i64.wrap ((p : Int) * 4096) = (q : Int))
    (hc : Calls Tryz.prog 124 #[.pointer (some pa), .slice (some ⟨r, 0, none⟩) 4096 4096, .int .i64 (q : Int)] w.drew fun e w' => ∃ x y, e = .returned (.tuple #[x, y]) ∧ R x y w' ∧ w'.cell? ⟨g, 3, none⟩ = some (.slice (some ⟨r, 0, none⟩) 4096 4096)) :
    Code.wp Tryz.prog reg71_10 (fun e a' w' => e = .normal ∧ ∃ x y, frw71p s0 (.iface 68 (.pointer (some pa))) s4 s5 (.int .i64 (p : Int)) (.pointer (some ⟨g, 0, none⟩)) y s16 a' ∧ R x y w')
      ⟨#[s0, .iface 68 (.pointer (some pa)), u 2, u 3, s4, s5, .int .i64 (p : Int), .pointer (some ⟨g, 0, none⟩), u 8, u 9, u 10, u 11, u 12, u 13, u 14, u 15, s16, u 17, u 18, u 19, u 20, u 21, u 22, u 23, u 24, u 25, u 26, u 27, u 28, u 29, u 30, u 31, u 32, u 33, u 34, u 35, u 36, u 37, u 38, u 39, u 40, u 41, u 42, u 43, u 44, u 45, u 46, u 47, u 48, u 49, u 50, u 51, u 52, u 53, u 54, u 55, u 56, u 57, u 58, u 59, u 60, u 61, u 62, u 63, u 64, u 65, u 66, u 67, u 68, u 69, u 70, u 71, u 72, u 73, u 74, u 75, u 76, u 77, u 78, u 79, u 80, u 81, u 82], []⟩ w := by
  have na := nil_ahead_w pa
  have me := method_w pa
  have hmf : ∀ (fn : Fn) (first cap : Array Value) (w : World), (Instr.makeFunc fn first cap).run Tryz.prog w = .ok (.func fn first cap) w := fun _ _ _ _ => rfl
  have HC := Lib.hid hc
  clear hc
  conv => arg 2; whnf
  go_region_held3 (fun W => W.cell? ⟨g, 3, none⟩ = some (.slice (some ⟨r, 0, none⟩) 4096 4096))
    (exact (by assumption))
    ((go_at_call 124; refine HC.out.mono ?_; rintro e w4 ⟨x, y, rfl, hr, k3⟩; have HR := Lib.hid hr; clear hr; dsimp only))
  exact ⟨rfl, x, y, ⟨rfl, rfl, rfl, rfl, rfl, rfl, rfl, rfl, rfl, rfl⟩, HR.out⟩

set_option maxRecDepth 100000 in
set_option maxHeartbeats 4000000 in
theorem dd10_B (g r p q : Nat) (pa : Addr) (s0 s4 s5 s16 : Value) (w : World) (u : Nat → Value) (R : Value → Value → World → Prop)
    (c3 : w.cell? ⟨g, 3, none⟩ = some (.slice (some ⟨r, 0, none⟩) 4096 4096)) (hsh : IntKind.i64.wrap ((p : Int) * 4096) = (q : Int))
    (hc : Calls Tryz.prog 81 #[.pointer (some pa), .slice (some ⟨r, 0, none⟩) 4096 4096, .int .i64 (q : Int)] w.drew fun e w' => ∃ x y, e = .returned (.tuple #[x, y]) ∧ R x y w' ∧ w'.cell? ⟨g, 3, none⟩ = some (.slice (some ⟨r, 0, none⟩) 4096 4096)) :
    Code.wp Tryz.prog reg71_10 (fun e a' w' => e = .normal ∧ ∃ x y, frw71p s0 (.iface 105 (.pointer (some pa))) s4 s5 (.int .i64 (p : Int)) (.pointer (some ⟨g, 0, none⟩)) y s16 a' ∧ R x y w')
      ⟨#[s0, .iface 105 (.pointer (some pa)), u 2, u 3, s4, s5, .int .i64 (p : Int), .pointer (some ⟨g, 0, none⟩), u 8, u 9, u 10, u 11, u 12, u 13, u 14, u 15, s16, u 17, u 18, u 19, u 20, u 21, u 22, u 23, u 24, u 25, u 26, u 27, u 28, u 29, u 30, u 31, u 32, u 33, u 34, u 35, u 36, u 37, u 38, u 39, u 40, u 41, u 42, u 43, u 44, u 45, u 46, u 47, u 48, u 49, u 50, u 51, u 52, u 53, u 54, u 55, u 56, u 57, u 58, u 59, u 60, u 61, u 62, u 63, u 64, u 65, u 66, u 67, u 68, u 69, u 70, u 71, u 72, u 73, u 74, u 75, u 76, u 77, u 78, u 79, u 80, u 81, u 82], []⟩ w := by
  have na := nil_ahead_wB pa
  have me := method_wB pa
  have hmf : ∀ (fn : Fn) (first cap : Array Value) (w : World), (Instr.makeFunc fn first cap).run Tryz.prog w = .ok (.func fn first cap) w := fun _ _ _ _ => rfl
  have HC := Lib.hid hc
  clear hc
  conv => arg 2; whnf
  go_region_held3 (fun W => W.cell? ⟨g, 3, none⟩ = some (.slice (some ⟨r, 0, none⟩) 4096 4096))
    (exact (by assumption))
    ((go_at_call 81; refine HC.out.mono ?_; rintro e w4 ⟨x, y, rfl, hr, k3⟩; have HR := Lib.hid hr; clear hr; dsimp only))
  exact ⟨rfl, x, y, ⟨rfl, rfl, rfl, rfl, rfl, rfl, rfl, rfl, rfl, rfl⟩, HR.out⟩

theorem dd10 (k g r p q : Nat) (pa : Addr) (s0 s4 s5 s16 : Value) (w : World) (a : Act) (R : Value → Value → World → Prop)
    (ha : frm71p s0 (.iface (parT k) (.pointer (some pa))) s4 s5 (.int .i64 (p : Int)) (.pointer (some ⟨g, 0, none⟩)) s16 a)
    (c3 : w.cell? ⟨g, 3, none⟩ = some (.slice (some ⟨r, 0, none⟩) 4096 4096)) (hsh : IntKind.i64.wrap ((p : Int) * 4096) = (q : Int))
    (hc : Calls Tryz.prog (wrFn k) #[.pointer (some pa), .slice (some ⟨r, 0, none⟩) 4096 4096, .int .i64 (q : Int)] w.drew fun e w' => ∃ x y, e = .returned (.tuple #[x, y]) ∧ R x y w' ∧ w'.cell? ⟨g, 3, none⟩ = some (.slice (some ⟨r, 0, none⟩) 4096 4096)) :
    Code.wp Tryz.prog reg71_10 (fun e a' w' => e = .normal ∧ ∃ x y, frw71p s0 (.iface (parT k) (.pointer (some pa))) s4 s5 (.int .i64 (p : Int)) (.pointer (some ⟨g, 0, none⟩)) y s16 a' ∧ R x y w') a w := by
  obtain ⟨u, rfl⟩ := frm71 ha
  cases k with
  | zero => exact dd10_M g r p q pa s0 s4 s5 s16 w u R c3 hsh hc
  | succ k => exact dd10_B g r p q pa s0 s4 s5 s16 w u R c3 hsh hc

end Go.Proofs.YtkkliejgmgmebaaGreatDoor

namespace Go.Proofs.YtkkliejgmgmebaaGreatDoor
open Go.RowKit

/-- a level whose pages of W have been written -/
def Lv.clean (L : Lv) (W : Nat → Bool) : Lv := { L with f := fun p => (L.f p).map fun x => { x with dirty := x.dirty && !W p } }

theorem clean_f (L : Lv) (W : Nat → Bool) {p : Nat} {x : Pg} (h : L.f p = some x) : (L.clean W).f p = some { x with dirty := x.dirty && !W p } := by
  unfold Lv.clean
  dsimp only
  rw [h]
  rfl

theorem clean_map (L : Lv) (W : Nat → Bool) : (fun p => ((L.clean W).f p).map Pg.g) = fun p => (L.f p).map Pg.g := by
  funext p
  unfold Lv.clean
  dsimp only
  rw [Option.map_map]
  rfl

/-- W and p -/
def addW (W : Nat → Bool) (p : Nat) : Nat → Bool := fun q => W q || decide (q = p)

theorem clean_add (L : Lv) (W : Nat → Bool) {p : Nat} {x : Pg} (h : L.f p = some x) : ((L.clean W).set p { x with dirty := false }) = L.clean (addW W p) := by
  unfold Lv.set Lv.clean addW
  dsimp only
  congr 1
  funext q
  by_cases e : q = p
  · subst e
    rw [if_pos rfl, h]
    simp
  · rw [if_neg e]
    cases L.f q with
    | none => rfl
    | some y => simp [e]

/-- how many pages -/
def cntW (W : Nat → Bool) : Nat := ((List.range 73).filter W).length

theorem cntW_le (W : Nat → Bool) : cntW W ≤ 73 := by
  have := List.length_filter_le W (List.range 73)
  rw [List.length_range] at this
  exact this

theorem cnt_add : ∀ (n : Nat) (W : Nat → Bool) (p : Nat), W p = false → ((List.range n).filter (addW W p)).length = ((List.range n).filter W).length + if p < n then 1 else 0
  | 0, W, p, _ => by simp
  | n + 1, W, p, h => by
    have ih := cnt_add n W p h
    rw [List.range_succ, List.filter_append, List.filter_append, List.length_append, List.length_append, ih]
    by_cases e : n = p
    · subst e
      have h1 : addW W n n = true := by simp [addW]
      simp [h1, h]
    · have h1 : addW W p n = W n := by simp [addW, e]
      have h2 : (p < n + 1) = (p < n) := by apply propext; omega
      simp only [List.filter_cons, h1, h2, List.filter_nil]
      omega

theorem cntW_add {W : Nat → Bool} {p : Nat} (h : W p = false) (hp : p < 73) : cntW (addW W p) = cntW W + 1 := by
  unfold cntW
  rw [cnt_add 73 W p h, if_pos hp]

theorem cntW_zero {W : Nat → Bool} (h : cntW W = 0) : ∀ p, p < 73 → W p = false := by
  intro p hp
  cases hw : W p
  · rfl
  · have : p ∈ (List.range 73).filter W := List.mem_filter.2 ⟨List.mem_range.2 hp, hw⟩
    unfold cntW at h
    rw [List.eq_nil_of_length_eq_zero h] at this
    cases this

/-- the byte that a level's page holds at place i -/
def Lv.byte (L : Lv) (i : Nat) : UInt8 := match L.f (i / 4096) with
  | some x => x.bs.getD (i % 4096) 0
  | none => 0

/-- level k has got the pages of W -/
structure PAcc (k : Nat) (S S' : St) (L : Lv) (W : Nat → Bool) : Prop where
  gm : S'.gm = S.gm
  gz : S'.gz = S.gz
  t : S'.t = S.t
  up : ∀ j, k < j → S'.L j = S.L j
  b : ∀ j, (S'.L j).b = (S.L j).b
  fb : 0 < k → S'.fb = S.fb
  sz : ∀ j, 0 < j → j ≠ k → (S'.L j).size = (S.L j).size
  rawlo : ∀ j i, j < k → S'.raw j i = S.raw j i
  raw : ∀ i, S'.raw k i = if W (i / 4096) = true then L.byte i else S.raw k i
  dirtyo : ∀ j q, 0 < j → j ≠ k → S'.dirty j q = S.dirty j q
  dirty : 0 < k → ∀ q, S'.dirty k q = true ↔ (S.dirty k q = true ∨ W q = true)
  same : (∀ q, W q = false) → S'.fb = S.fb

theorem PAcc.start (k : Nat) (S : St) (L : Lv) : PAcc k S S L (fun _ => false) :=
  ⟨rfl, rfl, rfl, fun _ _ => rfl, fun _ => rfl, fun _ => rfl, fun _ _ _ => rfl, fun _ _ _ => rfl, fun _ => by simp, fun _ _ _ _ => rfl, fun _ _ => by simp, fun _ => rfl⟩

theorem PAcc.step {k : Nat} {S S' S'' : St} {L : Lv} {W : Nat → Bool} {p : Nat} {x : Pg} (h : PAcc k S S' L W) (hx : L.f p = some x) (h' : PWr k S' S'' p x.bs) : PAcc k S S'' L (addW W p) := by
  refine ⟨h'.gm.trans h.gm, h'.gz.trans h.gz, h'.t.trans h.t, fun j hj => (h'.up j hj).trans (h.up j hj), fun j => (h'.b j).trans (h.b j), fun hk => (h'.fb hk).trans (h.fb hk), fun j h1 h2 => (h'.sz j h1 h2).trans (h.sz j h1 h2), fun j i hj => (h'.rawlo j i hj).trans (h.rawlo j i hj), fun i => ?_,
    fun j q h1 h2 => (h'.dirtyo j q h1 h2).trans (h.dirtyo j q h1 h2), fun hk q => ?_, fun hq => by have := hq p; simp [addW] at this⟩
  · rw [h'.raw, h.raw]
    unfold addW
    by_cases e : i / 4096 = p
    · rw [if_pos e, e]
      simp only [decide_true, Bool.or_true, if_true]
      unfold Lv.byte
      rw [e, hx]
    · rw [if_neg e]
      simp [e]
  · rw [h'.dirty hk, h.dirty hk]
    unfold addW
    simp only [Bool.or_eq_true, decide_eq_true_eq]
    exact ⟨fun h => h.elim (fun h => h.elim .inl fun h => .inr (.inl h)) fun h => .inr (.inr h), fun h => h.elim (fun h => .inl (.inl h)) fun h => h.elim (fun h => .inl (.inr h)) .inr⟩

/-- what holds while level k + 1 is written to level k -/
structure Dump (tg0 : Nat → Nat × Nat) (w0 : World) (it k : Nat) (S0 : St) (L : Lv) (W : Nat → Bool) (tg : Nat → Nat × Nat) (S : St) (w : World) : Prop where
  lv : LvIs tg w (k + 1) (S0.par k) (L.clean W)
  st : StIs tg w S
  acc : PAcc k S0 S L W
  wd : ∀ p, W p = true → ∃ x, L.f p = some x ∧ x.dirty = true
  tags : ∀ j, j < w0.heap.size → tg j = tg0 j
  kp : Keeps (fun j => j < w0.heap.size ∧ k + 1 < (tg0 j).1 ∧ j ≠ it) w0 w

/-- pages q .. p are to be written, each linked to the next one -/
def Chain (L : Lv) (W : Nat → Bool) (q p : Nat) : Prop := ∀ j, q ≤ j → j ≤ p → ∃ x, L.f j = some x ∧ x.dirty = true ∧ W j = false ∧ (j < p → ∃ y, L.f (j + 1) = some y ∧ x.nx = some y.g)

noncomputable def body71 : Code := ((Tryz.f71.body.bind firstLoop).getD .skip)
noncomputable def body71b : Code := ((firstLoop body71).getD .skip)
noncomputable def body71f : Code := ((laterLoop body71).getD .skip)

theorem neq_ptr_nil (w : World) (g : Nat) : (binOp .neq 150 (.pointer (some ⟨g, 0, none⟩)) (.pointer none)).run Tryz.prog w = .ok (.bool true) w := by kernel_rfl
theorem neq_nil_ptr (w : World) : (binOp .neq 150 (.pointer none) (.pointer none)).run Tryz.prog w = .ok (.bool false) w := by kernel_rfl

set_option maxRecDepth 100000 in
set_option maxHeartbeats 4000000 in
/-- THE WAY BACK along the links. -/
theorem dd_back (Q0 : Exit → Act → World → Prop) (tg0 : Nat → Nat × Nat) (w0 : World) (it k : Nat) (S0 : St) (L : Lv) (W : Nat → Bool) (tg : Nat → Nat × Nat) (S : St) (w : World) (p : Nat) (x : Pg) (s0 s1 s4 s5 s16 : Value) (A : Act)
    (hD : Dump tg0 w0 it k S0 L W tg S w) (hL : Linked L) (hx : L.f p = some x) (hd : x.dirty = true) (hw : W p = false)
    (hA : frm71p s0 s1 s4 s5 (.int .i64 (p : Int)) (.pointer (some ⟨x.g, 0, none⟩)) s16 A)
    (hexit : ∀ (a' : Act) (q : Nat) (y : Pg), frm71p s0 s1 s4 s5 (.int .i64 (q : Int)) (.pointer (some ⟨y.g, 0, none⟩)) s16 a' → q ≤ p → L.f q = some y → Chain L W q p → Q0 (.exit 2) a' w) :
    Code.wp Tryz.prog (Code.loop body71b) Q0 A w := by
  have q1 := neq_ptr_nil
  have q2 := neq_nil_ptr
  refine wp_loop_ghost (fun j a' w' => ∃ (q : Nat) (y : Pg), j = q ∧ q ≤ p ∧ frm71p s0 s1 s4 s5 (.int .i64 (q : Int)) (.pointer (some ⟨y.g, 0, none⟩)) s16 a' ∧ L.f q = some y ∧ Chain L W q p ∧ w' = w) p
    ⟨p, x, rfl, Nat.le_refl _, hA, hx, fun j h1 h2 => by
      obtain rfl : j = p := by omega
      exact ⟨x, hx, hd, hw, fun h => by omega⟩, rfl⟩ ?_
  rintro j a' w' ⟨q, y, rfl, hq, ha, hy, hC, rfl⟩
  obtain ⟨u, rfl⟩ := frm71 ha
  clear ha hA
  conv => arg 2; whnf
  have HE := Lib.hid hexit
  have HC := Lib.hid hC
  have hpg := (hD.lv.page j _ (clean_f L W hy)).1
  obtain ⟨pd, hc⟩ := hpg.cell
  have g0 := (cells_at hc).1 0
  simp only [List.getElem?_toArray, List.getElem?_cons_zero] at g0
  have hj73 : j < 73 := hD.lv.map.lt (p := j) (by rw [clean_f L W hy]; simp)
  rcases hL.pv j y hy with hpv | ⟨q', z, rfl, hz, hpv, hnx⟩
  · rw [hpv] at g0
    simp only [ptrO] at g0
    clear hD hC hexit hpg hc
    (repeat (first | go_values | go_skip | go_guarded | go_step | go_upon))
    exact HE.out _ j y ⟨rfl, rfl, rfl, rfl, rfl, rfl, rfl, rfl, rfl⟩ hq hy HC.out
  · rw [hpv] at g0
    simp only [ptrO] at g0
    have hpz := (hD.lv.page q' _ (clean_f L W hz)).1
    obtain ⟨pdz, hcz⟩ := hpz.cell
    have z4 := (cells_at hcz).1 4
    simp only [List.getElem?_toArray, List.getElem?_cons_succ, List.getElem?_cons_zero] at z4
    obtain ⟨dz, hdz⟩ : ∃ dz, (z.dirty && !W q') = dz := ⟨_, rfl⟩
    rw [hdz] at z4
    cases dz with
    | false =>
      clear hD hC hexit hpg hc hpz hcz
      (repeat (first | go_values | go_skip | go_guarded | go_step | go_upon))
      exact HE.out _ (q' + 1) y ⟨rfl, rfl, rfl, rfl, rfl, rfl, rfl, rfl, rfl⟩ hq hy HC.out
    | true =>
      simp only [Bool.and_eq_true, Bool.not_eq_true'] at hdz
      clear hD hexit hpg hc hpz hcz
      (repeat (first | go_values | go_skip | go_guarded | go_step | go_upon))
      refine ⟨q', by omega, q', z, rfl, by omega, ⟨rfl, rfl, rfl, rfl, rfl, rfl, by go_num, rfl, rfl⟩, hz, fun i h1 h2 => ?_, trivial⟩
      by_cases e : i = q'
      · subst e
        exact ⟨z, hz, hdz.1, hdz.2, fun _ => ⟨y, hy, hnx⟩⟩
      · exact HC.out i (by omega) h2

end Go.Proofs.YtkkliejgmgmebaaGreatDoor

namespace Go.Proofs.YtkkliejgmgmebaaGreatDoor
open Go.RowKit

/-- a page that is to be written, is written -/
theorem Dump.write {tg0 tg : Nat → Nat × Nat} {w0 w : World} {it k : Nat} {S0 S : St} {L : Lv} {W : Nat → Bool} {q : Nat} {x : Pg} {va vb : Addr} (h : Dump tg0 w0 it k S0 L W tg S w) (hV : VarsO tg0 w0 va vb) (hk : k = S0.t) (hk30 : k + 1 ≤ 30) (hit3 : (tg0 it).1 < 1000) (hx : L.f q = some x) (hd : x.dirty = true) :
    w.cell? ⟨x.g, 3, none⟩ = some (.slice (some ⟨x.r, 0, none⟩) 4096 4096) ∧
    Calls Tryz.prog (wrFn k) #[.pointer (some (S0.ptr k)), .slice (some ⟨x.r, 0, none⟩) 4096 4096, .int .i64 ((q * 4096 : Nat) : Int)] w.drew fun e w' => ∃ x1 y, e = .returned (.tuple #[x1, y]) ∧
      (y = .nilIface ∧ (∃ tg' S', Dump tg0 w0 it k S0 L (addW W q) tg' S' (w'.setCell ⟨x.g, 4, none⟩ (.bool false))) ∧ w'.cell? ⟨x.g, 4, none⟩ = some (.bool (x.dirty && !W q)) ∧ w'.frozen? ⟨x.g, 4, none⟩ = false ∧ w'.cell? ⟨x.g, 1, none⟩ = some (ptrO x.nx) ∧ Keeps (fun j => j < w.heap.size ∧ k < (tg j).1) w w') ∧
      w'.cell? ⟨x.g, 3, none⟩ = some (.slice (some ⟨x.r, 0, none⟩) 4096 4096) := by
  have hcf := clean_f L W hx
  obtain ⟨hpg, tx, tr⟩ := h.lv.page q _ hcf
  have hq73 : q < 73 := h.lv.map.lt (p := q) (by rw [hcf]; simp)
  obtain ⟨pd, hc⟩ := hpg.cell
  have hptr : S.ptr k = S0.ptr k := by
    cases k with
    | zero => show (⟨S.gm, 0, none⟩ : Addr) = ⟨S0.gm, 0, none⟩; rw [h.acc.gm]
    | succ k => show (⟨(S.L (k + 1)).b, 0, none⟩ : Addr) = ⟨(S0.L (k + 1)).b, 0, none⟩; rw [h.acc.b]
  have hVO : VarsO tg w va vb := (hV.keeps (h.kp.mono fun j (hj : j < w0.heap.size ∧ 1000 ≤ (tg0 j).1) => ⟨hj.1, by omega, fun e => by subst e; omega⟩)).mono fun j hj => ⟨Nat.lt_of_lt_of_le hj.1 h.kp.size, by rw [h.tags j hj.1]; exact hj.2⟩
  have hVd : VarsO tg w.drew va vb := (Vars.drew hVO).mono fun j hj => ⟨hj.1, hj.2⟩
  have hst : StIs tg w.drew S := h.st.kept (fun _ _ _ => rfl) (fun _ _ _ => rfl)
  have hrd : Rd (fun j => j < w.drew.heap.size ∧ k < (tg j).1) w.drew (some ⟨x.r, 0, none⟩) 4096 x.bs := by
    have h1 := hpg.row.rdOwn
    have h2 : Rd (fun j => j < w.heap.size ∧ k < (tg j).1) w (some ⟨x.r, 0, none⟩) 4096 x.bs := h1.mono fun j hj => by
      simp only [Value.ownBlock, Option.some.injEq] at hj
      subst hj
      exact ⟨hpg.rlt, by show k < (tg x.r).1; rw [show tg x.r = (k + 1, q) from tr]; omega⟩
    exact ⟨h2.1, h2.2⟩
  have hw := pwrite tg w.drew S k q x.r x.bs va vb hst (by rw [h.acc.t]; omega) hVd hq73 hrd
  rw [hptr] at hw
  refine ⟨(cells_at hc).1 3, hw.mono ?_⟩
  rintro e w' ⟨x1, y, rfl, rfl, tg', S', hP, htg, hst', hkp⟩
  have hkw : ∀ j, j < w.heap.size → k < (tg j).1 → w'.heap[j]? = w.heap[j]? := fun j h1 h2 => hkp.block j ⟨h1, h2⟩
  have hcx := (hkw x.g hpg.glt (by rw [show tg x.g = (k + 1, q) from tx]; omega)).trans hc
  have htx : tg' x.g = (k + 1, q) := (htg x.g hpg.glt).trans tx
  refine ⟨_, _, rfl, ⟨rfl, ⟨tg', S', ?_, ?_, h.acc.step hx hP, ?_, ?_, ?_⟩, (cells_at hcx).1 4, (cells_at hcx).2 4, (cells_at hcx).1 1, ⟨hkp.os, hkp.tape, hkp.output, hkp.size, fun j hj => hkw j hj.1 hj.2⟩⟩, (cells_at hcx).1 3⟩
  · have hlv' : LvIs tg' w' (k + 1) (S0.par k) (L.clean W) := h.lv.kept (fun j h1 h2 => hkw j h1 (by omega)) (fun j h1 _ => htg j h1)
    have h2 := hlv'.setPg hcf (y := { x with dirty := false }) rfl rfl ((hlv'.page q _ hcf).1.mark false) (fun j _ e1 _ => heap_set_other _ _ _ e1)
    rw [clean_add L W hx] at h2
    exact h2
  · refine hst'.kept (fun j h1 h2 => heap_set_other _ _ _ fun e => ?_) (fun _ _ _ => rfl)
    have e' : j = x.g := e
    rw [e', htx, hP.t, h.acc.t] at h2
    have h3 : k + 1 ≤ S0.t := h2
    omega
  · intro p hp
    unfold addW at hp
    simp only [Bool.or_eq_true, decide_eq_true_eq] at hp
    rcases hp with hp | rfl
    · exact h.wd p hp
    · exact ⟨x, hx, hd⟩
  · intro j hj
    exact (htg j (Nat.lt_of_lt_of_le hj h.kp.size)).trans (h.tags j hj)
  · have hk1 : Keeps (fun j => j < w0.heap.size ∧ k + 1 < (tg0 j).1 ∧ j ≠ it) w w' := ⟨hkp.os, hkp.tape, hkp.output, hkp.size, fun j hj => hkw j (Nat.lt_of_lt_of_le hj.1 h.kp.size) (by rw [h.tags j hj.1]; omega)⟩
    refine (h.kp.trans hk1).trans (Keeps.setCell (a := ⟨x.g, 4, none⟩) (fun hh => ?_) _)
    have h1 : x.g < w0.heap.size := hh.1
    have h2 : k + 1 < (tg0 x.g).1 := hh.2.1
    rw [← h.tags x.g h1, show tg x.g = (k + 1, q) from tx] at h2
    have h3 : k + 1 < k + 1 := h2
    omega

/-- what is still to be done on the way forth -/
def Pend (L : Lv) (W : Nat → Bool) (p q : Nat) (og : Option Nat) : Prop := W p = true ∨ (q ≤ p ∧ Chain L W q p ∧ ∃ x, L.f q = some x ∧ og = some x.g)

set_option maxRecDepth 100000 in
set_option maxHeartbeats 8000000 in
theorem dd_forth (Q0 : Exit → Act → World → Prop) (tg0 : Nat → Nat × Nat) (w0 : World) (k : Nat) (S0 : St) (L : Lv) (W0 : Nat → Bool) (tg1 : Nat → Nat × Nat) (S1 : St) (w1 : World) (p q1 it : Nat) (x : Pg) (left : Nat → Bool) (cnt : Nat) (va vb : Addr) (s0 : Value) (A : Act)
    (hV : VarsO tg0 w0 va vb) (hk : k = S0.t) (hk30 : k + 1 ≤ 30) (hD : Dump tg0 w0 it k S0 L W0 tg1 S1 w1) (hL : Linked L) (hit : it < w0.heap.size) (hit2 : k + 1 < (tg0 it).1) (hit3 : (tg0 it).1 < 1000) (hM : MRange w1 L.m it (fun p => (L.f p).map Pg.g) left cnt)
    (hx : L.f q1 = some x) (hq : q1 ≤ p) (hC : Chain L W0 q1 p)
    (hA : frm71p s0 (S0.par k) (.int .i64 (cntW W0 : Int)) .nilIface (.int .i64 (q1 : Int)) (.pointer (some ⟨x.g, 0, none⟩)) (.pointer (some ⟨it, 0, none⟩)) A)
    (hexit : ∀ (a' : Act) (w' : World) (W : Nat → Bool) (tg : Nat → Nat × Nat) (S : St) s6 s7, frm71p s0 (S0.par k) (.int .i64 (cntW W : Int)) .nilIface s6 s7 (.pointer (some ⟨it, 0, none⟩)) a' → Dump tg0 w0 it k S0 L W tg S w' → MRange w' L.m it (fun p => (L.f p).map Pg.g) left cnt → (∀ j, W0 j = true → W j = true) → W p = true → Q0 (.exit 4) a' w') :
    Code.wp Tryz.prog (Code.loop body71f) Q0 A w1 := by
  have n1 := neq_ptr_nil
  have n2 := neq_nil_ptr
  have n3 := neq_nil_nil
  rw [St.par_eq] at *
  refine wp_loop_ghost (fun j a' w' => ∃ (W : Nat → Bool) (tg : Nat → Nat × Nat) (S : St) (q : Nat) (og : Option Nat), j = 73 - cntW W ∧ frm71p s0 (.iface (parT k) (.pointer (some (S0.ptr k)))) (.int .i64 (cntW W : Int)) .nilIface (.int .i64 (q : Int)) (ptrO og) (.pointer (some ⟨it, 0, none⟩)) a' ∧
    Dump tg0 w0 it k S0 L W tg S w' ∧ MRange w' L.m it (fun p => (L.f p).map Pg.g) left cnt ∧ (∀ j, W0 j = true → W j = true) ∧ (og = none ∨ ∃ x, L.f q = some x ∧ og = some x.g) ∧ q ≤ 100 ∧ Pend L W p q og) (73 - cntW W0)
    ⟨W0, tg1, S1, q1, some x.g, rfl, hA, hD, hM, fun _ h => h, .inr ⟨x, hx, rfl⟩, by
      have := hD.lv.map.lt (p := q1) (by rw [clean_f L W0 hx]; simp)
      omega, .inr ⟨hq, hC, x, hx, rfl⟩⟩ ?_
  rintro j a' w' ⟨W, tg, S, q, og, rfl, ha, hD, hM, hW, hog, hq100, hP⟩
  obtain ⟨u, rfl⟩ := frm71 ha
  clear ha hA
  conv => arg 2; whnf
  have HE := Lib.hid hexit
  have HDD := Lib.hid hD
  have HMM := Lib.hid hM
  have HW := Lib.hid hW
  have hcl := cntW_le W
  rcases hog with rfl | ⟨z, hz, rfl⟩
  · have hp : W p = true := by
      rcases hP with h | ⟨-, -, y, -, e⟩
      · exact h
      · cases e
    simp only [ptrO]
    clear hD hM hW hexit hP hC hV
    (repeat (first | go_values | go_skip | go_guarded | go_step | go_upon))
    exact HE.out _ _ _ _ _ _ _ ⟨rfl, rfl, rfl, rfl, rfl, rfl, rfl, rfl, rfl⟩ HDD.out HMM.out HW.out hp
  · simp only [ptrO]
    have hcf := clean_f L W hz
    have hpg := (hD.lv.page q _ hcf).1
    obtain ⟨pd, hc⟩ := hpg.cell
    have z4 := (cells_at hc).1 4
    simp only [List.getElem?_toArray, List.getElem?_cons_succ, List.getElem?_cons_zero] at z4
    obtain ⟨dz, hdz⟩ : ∃ dz, (z.dirty && !W q) = dz := ⟨_, rfl⟩
    rw [hdz] at z4
    cases dz with
    | false =>
      have hp : W p = true := by
        rcases hP with h | ⟨h1, h2, y, h3, h4⟩
        · exact h
        · obtain ⟨y', e1, e2, e3, -⟩ := h2 q (Nat.le_refl _) h1
          rw [hz] at e1
          cases e1
          rw [e2, e3] at hdz
          cases hdz
      clear hD hM hW hexit hP hC hV hpg hc
      (repeat (first | go_values | go_skip | go_guarded | go_step | go_upon))
      exact HE.out _ _ _ _ _ _ _ ⟨rfl, rfl, rfl, rfl, rfl, rfl, rfl, rfl, rfl⟩ HDD.out HMM.out HW.out hp
    | true =>
      simp only [Bool.and_eq_true, Bool.not_eq_true'] at hdz
      obtain ⟨zd, zw⟩ := hdz
      obtain ⟨z3, hcall⟩ := hD.write hV hk hk30 hit3 hz zd
      have hq73 : q < 73 := hD.lv.map.lt (p := q) (by rw [hcf]; simp)
      have hsh : IntKind.i64.wrap ((q : Int) * 4096) = ((q * 4096 : Nat) : Int) := by rw [IntKind.wrap_i64]; omega
      have HC := Lib.hid hcall
      have hca := cntW_add zw hq73
      have hcl2 := cntW_le (addW W q)
      clear hD hM hW hexit hC hV hpg hc hcall
      (repeat (first | go_values | go_skip | go_guarded | go_step | go_upon))
      refine Code.wp_mono ?_ (dd10 k z.g z.r q (q * 4096) (S0.ptr k) s0 (.int .i64 (cntW W : Int)) .nilIface (.pointer (some ⟨it, 0, none⟩)) w' _ _ ⟨rfl, rfl, rfl, rfl, rfl, rfl, rfl, rfl, rfl⟩ z3 hsh HC.out)
      rintro e a2 w2 ⟨rfl, x1, y, ha2, rfl, ⟨tg', S', hD'⟩, g4, f4, g1, hkp⟩
      obtain ⟨u2, rfl⟩ := frw71 ha2
      have HD' := Lib.hid hD'
      have HKP := Lib.hid hkp
      clear ha2 hD' HC hkp
      dsimp only [Exit.then]
      (repeat (first | go_values | go_skip | go_guarded | go_step | go_upon))
      have hD := HDD.out
      have hmlt : L.m < w'.heap.size := hD.lv.mlt
      have hmt : (tg L.m).1 = k + 1 := hD.lv.tm
      have hzt : tg z.g = (k + 1, q) := (hD.lv.page q _ hcf).2.1
      have hiw : it < w'.heap.size := Nat.lt_of_lt_of_le hit hD.kp.size
      have hitt : tg it = tg0 it := hD.tags it hit
      obtain ⟨es, cc, hmm⟩ := HMM.out.map.isMap
      obtain ⟨pdz, hcz⟩ := (hD.lv.page q _ hcf).1.cell
      have nmz : L.m ≠ z.g := fun e => by
        rw [e] at hmm
        rw [show w'.heap[z.g]? = _ from hcz] at hmm
        cases hmm
      have niz : it ≠ z.g := fun e => by rw [e, hzt] at hitt; rw [e, ← hitt] at hit2; have h3 : k + 1 < k + 1 := hit2; omega
      have hM2 := HMM.out.kept (w' := w2.setCell ⟨z.g, 4, none⟩ (.bool false)) ((heap_set_other _ _ _ nmz).trans (HKP.out.block L.m ⟨hmlt, by omega⟩)) ((heap_set_other _ _ _ niz).trans (HKP.out.block it ⟨hiw, by rw [hitt]; omega⟩))
      refine ⟨73 - cntW (addW W q), by omega, addW W q, tg', S', q + 1, z.nx, rfl, ⟨rfl, rfl, rfl, rfl, ?_, rfl, by go_num, ?_, rfl⟩, HD'.out, hM2, fun j hj => ?_, ?_, by omega, ?_⟩
      · show Value.int .i64 _ = Value.int .i64 _
        congr 1
        omega
      · show ptrO z.nx = _
        cases z.nx <;> rfl
      · unfold addW
        rw [HW.out j hj]
        rfl
      · rcases hL.nx q z hz with h | ⟨y, h1, h2⟩
        · exact .inl h
        · exact .inr ⟨y, h1, h2⟩
      · rcases hP with h | ⟨h1, h2, -⟩
        · exact .inl (by unfold addW; rw [h]; rfl)
        · by_cases e : q = p
          · subst e
            exact .inl (by simp [addW])
          · obtain ⟨y', e1, e2, e3, e4⟩ := h2 q (Nat.le_refl _) h1
            rw [hz] at e1
            cases e1
            obtain ⟨y, h5, h6⟩ := e4 (by omega)
            refine .inr ⟨by omega, fun j g1' g2' => ?_, y, h5, h6⟩
            obtain ⟨v, v1, v2, v3, v4⟩ := h2 j (by omega) g2'
            exact ⟨v, v1, v2, by unfold addW; rw [v3]; simp; omega, v4⟩

end Go.Proofs.YtkkliejgmgmebaaGreatDoor
