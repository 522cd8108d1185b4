/-
  Nested transactions of the reference: how they lie in memory.
-/
import Derived.Test.YtkkliejgmgmebaaGreatDoorQa
namespace Go.Proofs.YtkkliejgmgmebaaGreatDoor
open Go.RowKit

/-- a File with its three slices -/
structure FV where
  vd : Value
  vk : Value
  vw : Value
  F : Fl

abbrev FV.cells (x : FV) : List Value := [x.vd, x.vk, x.vw]
/-- its own blocks -/
def FV.own (x : FV) (k : Nat) : Prop := x.vd.ownBlock = some k ∨ x.vk.ownBlock = some k ∨ x.vw.ownBlock = some k

/-- a Nested in memory: its block gn, the row of its states in block gs -/
structure NIs (Pr : Nat → Prop) (w : World) (gn gs cap : Nat) (X : List FV) (opn : Bool) (most : Nat) : Prop where
  nest : w.heap[gn]? = some (.cells #[.slice (some ⟨gs, 0, none⟩) X.length cap, .bool opn, .int .i64 (most : Int)] 37 (0, 0))
  ng : ¬ Pr gn
  row : Row Pr w 34 3 (.slice (some ⟨gs, 0, none⟩) X.length cap) X.length (X.flatMap FV.cells)
  val : ∀ (i : Nat) (x : FV), X[i]? = some x → FileVal Pr w x.vd x.vk x.vw x.F
  dis : ∀ (i j : Nat) (x y : FV), i < j → X[i]? = some x → X[j]? = some y → ∀ k, x.own k → ¬ y.own k

/-- all that is not state i -/
def PrN (Pr : Nat → Prop) (gn : Nat) (X : List FV) (i : Nat) : Nat → Prop := fun k => Pr k ∨ k = gn ∨ ∃ (j : Nat) (y : FV), j ≠ i ∧ X[j]? = some y ∧ y.own k

theorem flat_len (X : List FV) : (X.flatMap FV.cells).length = X.length * 3 := by
  induction X with
  | nil => rfl
  | cons x X ih => rw [List.flatMap_cons, List.length_append, ih, List.length_cons]; simp; omega

theorem split_at {α : Type} {X : List α} {i : Nat} {x : α} (h : X[i]? = some x) : X = X.take i ++ x :: X.drop (i + 1) := by
  obtain ⟨hl, rfl⟩ := List.getElem?_eq_some_iff.1 h
  rw [List.getElem_cons_drop, List.take_append_drop]

theorem set_at {α : Type} {X : List α} {i : Nat} (y : α) (h : i < X.length) : X.set i y = X.take i ++ y :: X.drop (i + 1) := List.set_eq_take_append_cons_drop .. |>.trans (if_pos h)

theorem FileVal.widen' {Pr Pr' : Nat → Prop} {w : World} {x : FV} (h : FileVal Pr w x.vd x.vk x.vw x.F) (hp : ∀ k, x.own k → ¬ Pr' k) : FileVal Pr' w x.vd x.vk x.vw x.F :=
  ⟨h.rd.widen fun k hk => hp k (.inl hk), h.rk.widen fun k hk => hp k (.inr (.inl hk)), h.rw.widen fun k hk => hp k (.inr (.inr hk)), h.ne⟩

section
variable {Pr : Nat → Prop} {w : World} {gn gs cap : Nat} {X : List FV} {opn : Bool} {most : Nat}

theorem NIs.own_lt (h : NIs Pr w gn gs cap X opn most) {i : Nat} {x : FV} (hi : X[i]? = some x) {k : Nat} (hk : x.own k) : k < w.heap.size ∧ ¬ Pr k ∧ k ≠ gn ∧ k ≠ gs := by
  have hv := h.val i x hi
  obtain ⟨cur, hg⟩ : ∃ cur, w.heap[gs]? = some (.cells cur 34 (0, 0)) := (h.row.own (k := gs) rfl).2.2
  rcases hk with hk | hk | hk
  · exact ⟨(hv.rd.own hk).1, (hv.rd.own hk).2.1, fun e => hv.rd.neElem h.nest (by decide) (e ▸ hk), fun e => hv.rd.neElem hg (by decide) (e ▸ hk)⟩
  · exact ⟨(hv.rk.own hk).1, (hv.rk.own hk).2.1, fun e => hv.rk.neElem h.nest (by decide) (e ▸ hk), fun e => hv.rk.neElem hg (by decide) (e ▸ hk)⟩
  · exact ⟨(hv.rw.own hk).1, (hv.rw.own hk).2.1, fun e => hv.rw.neElem h.nest (by decide) (e ▸ hk), fun e => hv.rw.neElem hg (by decide) (e ▸ hk)⟩

theorem NIs.ne (h : NIs Pr w gn gs cap X opn most) : gn ≠ gs := fun e => by
  obtain ⟨cur, hg⟩ : ∃ cur, w.heap[gs]? = some (.cells cur 34 (0, 0)) := (h.row.own (k := gs) rfl).2.2
  have := h.nest
  rw [e, hg] at this
  simp only [Option.some.injEq, Obj.cells.injEq] at this
  exact absurd this.2.1 (by decide)

theorem FileVal.ownOf {Pr : Nat → Prop} {w : World} {x : FV} (h : FileVal Pr w x.vd x.vk x.vw x.F) {k : Nat} (hk : x.own k) : k < w.heap.size ∧ ¬ Pr k := by
  rcases hk with hk | hk | hk
  · exact ⟨(h.rd.own hk).1, (h.rd.own hk).2.1⟩
  · exact ⟨(h.rk.own hk).1, (h.rk.own hk).2.1⟩
  · exact ⟨(h.rw.own hk).1, (h.rw.own hk).2.1⟩

theorem FileVal.keepOwn {Pr : Nat → Prop} {w w' : World} {x : FV} (h : FileVal Pr w x.vd x.vk x.vw x.F) (hk : ∀ k, x.own k → w'.heap[k]? = w.heap[k]?) : FileVal Pr w' x.vd x.vk x.vw x.F := h.kept fun k _ hor => hk k hor

theorem NIs.dis' (h : NIs Pr w gn gs cap X opn most) {i j : Nat} {x y : FV} (hn : j ≠ i) (hi : X[i]? = some x) (hj : X[j]? = some y) {k : Nat} (hx : x.own k) : ¬ y.own k := fun hy => by
  rcases Nat.lt_or_gt_of_ne hn with hlt | hlt
  · exact h.dis j i y x hlt hj hi k hy hx
  · exact h.dis i j x y hlt hi hj k hx hy

/-- state i as a File -/
theorem NIs.file (h : NIs Pr w gn gs cap X opn most) {i : Nat} {x : FV} (hi : X[i]? = some x) :
    ∃ g : FP, g.b = gs ∧ g.o = i * 3 ∧ FileIs (PrN Pr gn X i) w g x.vd x.vk x.vw x.F ∧
      ∀ w' vd' vk' vw' F', FileIs (PrN Pr gn X i) w' g vd' vk' vw' F' → Keeps (PrN Pr gn X i) w w' → NIs Pr w' gn gs cap (X.set i ⟨vd', vk', vw', F'⟩) opn most := by
  have hne := h.ne
  have hlen : i < X.length := (List.getElem?_eq_some_iff.1 hi).1
  rcases h.row.2 with ⟨h0, -⟩ | ⟨g', cap', cur, hv, hp, hg, h1, h2, h3, ht⟩
  · simp at h0
  simp only [Value.slice.injEq, Option.some.injEq, Addr.mk.injEq, true_and, and_true] at hv
  obtain ⟨rfl, rfl⟩ := hv
  obtain ⟨rest, hrest⟩ : ∃ rest, cur.toList = X.flatMap FV.cells ++ rest := ⟨cur.toList.drop (X.length * 3), by rw [← ht, List.take_append_drop]⟩
  have hflat : X.flatMap FV.cells = (X.take i).flatMap FV.cells ++ (x.cells ++ (X.drop (i + 1)).flatMap FV.cells) := by
    conv => lhs; rw [split_at hi]
    rw [List.flatMap_append, List.flatMap_cons]
  have hti : ((X.take i).flatMap FV.cells).length = i * 3 := by rw [flat_len, List.length_take]; congr 1; omega
  refine ⟨⟨gs, i * 3, (X.take i).flatMap FV.cells, (X.drop (i + 1)).flatMap FV.cells ++ rest⟩, rfl, rfl, ⟨?_, hti, ?_, ?_⟩, ?_⟩
  · rw [hg]
    have : cur = FP.cs ⟨gs, i * 3, (X.take i).flatMap FV.cells, (X.drop (i + 1)).flatMap FV.cells ++ rest⟩ x.vd x.vk x.vw := by
      apply Array.toList_inj.1
      rw [hrest, hflat]
      show _ = (X.take i).flatMap FV.cells ++ x.vd :: x.vk :: x.vw :: ((X.drop (i + 1)).flatMap FV.cells ++ rest)
      simp
    rw [this]
  · rintro (h4 | h4 | ⟨j, y, hj, hy, ho⟩)
    · exact hp h4
    · exact hne h4.symm
    · exact (h.own_lt hy ho).2.2.2 rfl
  · refine (h.val i x hi).widen' fun k hk => ?_
    rintro (h4 | h4 | ⟨j, y, hj, hy, ho⟩)
    · exact (h.own_lt hi hk).2.1 h4
    · exact (h.own_lt hi hk).2.2.1 h4
    · exact h.dis' hj hi hy hk ho
  · intro w' vd' vk' vw' F' hF hK
    have hfl : (X.set i ⟨vd', vk', vw', F'⟩).flatMap FV.cells = (X.take i).flatMap FV.cells ++ ([vd', vk', vw'] ++ (X.drop (i + 1)).flatMap FV.cells) := by
      rw [set_at _ hlen, List.flatMap_append, List.flatMap_cons]
    have hcv : ∀ k, (FV.mk vd' vk' vw' F').own k → ¬ PrN Pr gn X i k := fun k hk => (hF.v.ownOf (x := ⟨vd', vk', vw', F'⟩) hk).2
    refine ⟨?_, h.ng, ⟨by rw [flat_len], .inr ⟨gs, cap, _, rfl, hp, hF.cell, by rw [List.length_set]; exact h1, h2, ?_, ?_⟩⟩, fun j y hj => ?_, fun j l y z hjl hj hl k hy hz => ?_⟩
    · rw [List.length_set]
      exact (hK.block gn (.inr (.inl rfl))).trans h.nest
    · have : (FP.cs ⟨gs, i * 3, (X.take i).flatMap FV.cells, (X.drop (i + 1)).flatMap FV.cells ++ rest⟩ vd' vk' vw').size = cur.size := by
        have e1 : cur.size = cur.toList.length := rfl
        rw [e1, hrest, hflat]
        simp [FP.cs]
      rw [this]; exact h3
    · rw [List.length_set, hfl]
      show (((X.take i).flatMap FV.cells ++ vd' :: vk' :: vw' :: ((X.drop (i + 1)).flatMap FV.cells ++ rest))).take (X.length * 3) = _
      have e2 : (X.take i).flatMap FV.cells ++ vd' :: vk' :: vw' :: ((X.drop (i + 1)).flatMap FV.cells ++ rest) = ((X.take i).flatMap FV.cells ++ ([vd', vk', vw'] ++ (X.drop (i + 1)).flatMap FV.cells)) ++ rest := by simp
      rw [e2]
      apply List.take_left'
      rw [← hfl, flat_len, List.length_set]
    · by_cases e : j = i
      · subst e
        rw [List.getElem?_set_self hlen] at hj
        cases hj
        exact hF.v.widen fun k _ h4 h5 => h4 (.inl h5)
      · rw [List.getElem?_set_ne (Ne.symm e)] at hj
        exact (h.val j y hj).keepOwn fun k hk => hK.block k (.inr (.inr ⟨j, y, e, hj, hk⟩))
    · by_cases e : j = i
      · subst e
        rw [List.getElem?_set_self hlen] at hj
        cases hj
        rw [List.getElem?_set_ne (by omega)] at hl
        exact hcv k hy (.inr (.inr ⟨l, z, by omega, hl, hz⟩))
      · rw [List.getElem?_set_ne (Ne.symm e)] at hj
        by_cases e2 : l = i
        · subst e2
          rw [List.getElem?_set_self hlen] at hl
          cases hl
          exact hcv k hz (.inr (.inr ⟨j, y, e, hj, hy⟩))
        · rw [List.getElem?_set_ne (Ne.symm e2)] at hl
          exact h.dis j l y z hjl hj hl k hy hz

/-- what changes no block of theirs -/
theorem NIs.kept {w' : World} (h : NIs Pr w gn gs cap X opn most) (hk : ∀ k, k < w.heap.size → (k = gn ∨ k = gs ∨ ∃ (j : Nat) (y : FV), X[j]? = some y ∧ y.own k) → w'.heap[k]? = w.heap[k]?) : NIs Pr w' gn gs cap X opn most :=
  ⟨(hk gn (lt_of_heap h.nest) (.inl rfl)).trans h.nest, h.ng, h.row.kept fun k hk' => hk k (h.row.own hk').1 (.inr (.inl (by simpa [Value.ownBlock] using hk'.symm))), fun i x hx => (h.val i x hx).keepOwn fun k hk' => hk k (h.own_lt hx hk').1 (.inr (.inr ⟨i, x, hx, hk'⟩)), h.dis⟩

theorem NIs.keeps {Pr2 : Nat → Prop} {w' : World} (h : NIs Pr w gn gs cap X opn most) (hk : Keeps Pr2 w w') (hp : ∀ k, k < w.heap.size → ¬ Pr k → Pr2 k) : NIs Pr w' gn gs cap X opn most :=
  h.kept fun k hlt hor => hk.block k (hp k hlt (by
    rcases hor with e | e | ⟨j, y, hy, ho⟩
    · rw [e]; exact h.ng
    · rw [e]; exact (h.row.own (k := gs) rfl).2.1
    · exact (h.own_lt hy ho).2.1))

theorem NIs.widen {Pr' : Nat → Prop} (h : NIs Pr w gn gs cap X opn most) (hp : ∀ k, k < w.heap.size → ¬ Pr k → ¬ Pr' k) : NIs Pr' w gn gs cap X opn most :=
  ⟨h.nest, hp gn (lt_of_heap h.nest) h.ng, h.row.widen fun k hk => hp k (h.row.own hk).1 (h.row.own hk).2.1, fun i x hx => (h.val i x hx).widen hp, h.dis⟩

/-- other cells of the Nested -/
theorem NIs.flags (h : NIs Pr w gn gs cap X opn most) (opn' : Bool) (most' : Nat) {w' : World} (hw : ∀ k, k ≠ gn → w'.heap[k]? = w.heap[k]?) (hn : w'.heap[gn]? = some (.cells #[.slice (some ⟨gs, 0, none⟩) X.length cap, .bool opn', .int .i64 (most' : Int)] 37 (0, 0))) : NIs Pr w' gn gs cap X opn' most' :=
  ⟨hn, h.ng, h.row.kept fun k hk => hw k fun e => by subst e; exact h.ne (by simpa [Value.ownBlock] using hk.symm), fun i x hx => (h.val i x hx).keepOwn fun k hk => hw k (h.own_lt hx hk).2.2.1, h.dis⟩

/-- the last states are let go -/
theorem NIs.cut (h : NIs Pr w gn gs cap X opn most) (n : Nat) (hn : n ≤ X.length) {w' : World} (hw : ∀ k, k ≠ gn → w'.heap[k]? = w.heap[k]?) (hg : w'.heap[gn]? = some (.cells #[.slice (some ⟨gs, 0, none⟩) n cap, .bool opn, .int .i64 (most : Int)] 37 (0, 0))) : NIs Pr w' gn gs cap (X.take n) opn most := by
  have hl : (X.take n).length = n := by rw [List.length_take]; omega
  have hfl : (X.take n).flatMap FV.cells = (X.flatMap FV.cells).take (n * 3) := by
    conv => rhs; rw [← List.take_append_drop n X, List.flatMap_append]
    rw [List.take_left' (by rw [flat_len, hl])]
  have hle : n ≤ cap := by
    obtain ⟨a, c, e, h1, -⟩ := h.row.slice
    simp only [Value.slice.injEq, true_and] at e
    omega
  have hx : ∀ (i : Nat) (x : FV), (X.take n)[i]? = some x → X[i]? = some x := fun i x hi => by
    by_cases hin : i < n
    · rwa [List.getElem?_take_of_lt hin] at hi
    · rw [List.getElem?_eq_none (by rw [hl]; omega)] at hi; cases hi
  refine ⟨by rw [hl]; exact hg, h.ng, ?_, fun i x hi => ?_, fun i j x y hij hi hj => h.dis i j x y hij (hx i x hi) (hx j y hj)⟩
  · rw [hl, hfl]
    exact (h.row.cut n cap hn hle (Nat.le_refl _)).kept fun k hk => hw k fun e => by subst e; exact h.ne (by simpa [Value.ownBlock] using hk.symm)
  · exact (h.val i x (hx i x hi)).keepOwn fun k hk => hw k (h.own_lt (hx i x hi) hk).2.2.1
end

end Go.Proofs.YtkkliejgmgmebaaGreatDoor

namespace Go.Proofs.YtkkliejgmgmebaaGreatDoor
open Go.RowKit

set_option maxRecDepth 100000 in
set_option maxHeartbeats 4000000 in
theorem newNested_any (w : World) (m c : Nat) (b : Option Addr) (bs : List UInt8) (hr : Rd (Old w) w b m bs) (hmc : m ≤ c) (hm : m ≤ 2147483647) :
    Calls Tryz.prog 11 #[.slice b m c] w fun e w' => ∃ gn gs vd vk vw, e = .returned (.pointer (some ⟨gn, 0, none⟩)) ∧ NIs (Old w) w' gn gs 1 [⟨vd, vk, vw, Fl.new bs⟩] false m ∧ Keeps (Old w) w w' := by
  have NF := Lib.hid (newFile_any (Old w) w m c b bs (fun _ h => h) hr hmc (by omega))
  clear hr
  go_enter Tryz.func11, Tryz.ntmps11
  (repeat (first | go_values | go_skip | go_guarded | go_step | go_upon))
  refine NF.out.mono ?_
  rintro e w1 ⟨vd, vk, vw, rfl, hv, hk⟩
  have HV := Lib.hid hv
  have HK := Lib.hid hk
  obtain ⟨ad, cd, rfl, -⟩ := hv.rd.slice
  obtain ⟨ak, ck, rfl, -⟩ := hv.rk.slice
  obtain ⟨aw, cw, rfl, -⟩ := hv.rw.slice
  clear hv hk NF
  dsimp only
  (repeat (first | go_values | go_skip | go_guarded | go_step | go_upon))
  go_ret
  have hs := HK.out.size
  have s1 : (w1.alloc (.cells #[.slice ad (Fl.new bs).d.length cd, .slice ak (Fl.new bs).d.length ck, .slice aw (Fl.new bs).d.length cw] 34)).heap.size = w1.heap.size + 1 := by simp
  refine ⟨w1.heap.size + 1, w1.heap.size, .slice ad (Fl.new bs).d.length cd, .slice ak (Fl.new bs).d.length ck, .slice aw (Fl.new bs).d.length cw, rfl, ⟨heap_alloc_at _ _ s1.symm, fun h => ?_, ?_, fun i x hx => ?_, fun i j x y hij _ hj => ?_⟩, ?_⟩
  · have : w1.heap.size + 1 < w.heap.size := h
    omega
  · refine ⟨rfl, .inr ⟨w1.heap.size, 1, _, rfl, fun h => ?_, heap_alloc2_old _ _ _, Nat.le_refl _, by decide, Nat.le_refl _, rfl⟩⟩
    have : w1.heap.size < w.heap.size := h
    omega
  · cases i with
    | zero =>
      simp only [List.getElem?_cons_zero, Option.some.injEq] at hx
      subst hx
      exact (HV.out.alloc _).alloc _
    | succ i => cases hx
  · cases j with
    | zero => omega
    | succ j => cases hj
  · exact (HK.out.trans (Keeps.alloc (fun k (h : k < w.heap.size) => by omega) _)).trans (Keeps.alloc (fun k (h : k < w.heap.size) => by omega) _)

set_option maxRecDepth 100000 in
set_option maxHeartbeats 4000000 in
theorem top_any (Pr : Nat → Prop) (w : World) (gn gs cap : Nat) (X : List FV) (opn : Bool) (most : Nat) (h : NIs Pr w gn gs cap X opn most) (hx : 0 < X.length) (hl : X.length ≤ 1000) :
    Calls Tryz.prog 13 #[.pointer (some ⟨gn, 0, none⟩)] w fun e w' => e = .returned (.pointer (some ⟨gs, (X.length - 1) * 3, none⟩)) ∧ ∃ q, w' = World.drewN w q := by
  obtain ⟨c0, -⟩ := cells_at h.nest
  have x0 := c0 0
  simp only [List.getElem?_toArray, List.getElem?_cons_zero] at x0
  obtain ⟨n, hn⟩ : ∃ n, X.length = n + 1 := ⟨X.length - 1, by omega⟩
  rw [hn] at x0 ⊢
  have hcap : n + 1 ≤ cap := by
    obtain ⟨a, c, e, h1, -⟩ := h.row.slice
    simp only [Value.slice.injEq, true_and] at e
    omega
  clear h c0
  go_enter Tryz.func13, Tryz.ntmps13
  (repeat (first | go_values | go_skip | go_guarded | go_step | go_upon))
  go_quiet (fail)
  (repeat (first | go_values | go_skip | go_guarded | go_step | go_upon))
  go_ret
  exact ⟨by rw [Nat.add_sub_cancel]; rfl, _, rfl⟩

end Go.Proofs.YtkkliejgmgmebaaGreatDoor

namespace Go.Proofs.YtkkliejgmgmebaaGreatDoor
open Go.RowKit

/-- nested transactions of the reference -/
structure Ns where
  Fs : List Fl
  opn : Bool
  most : Nat

/-- what a call of them leaves -/
def NPost (Pr : Nat → Prop) (w : World) (gn : Nat) (N : Ns) (b : Bool) (e : Ending) (w' : World) : Prop :=
  e = .returned (.bool b) ∧ ∃ gs cap X, NIs Pr w' gn gs cap X N.opn N.most ∧ X.map FV.F = N.Fs ∧ Keeps Pr w w'

section
variable {Pr : Nat → Prop} {w : World} {gn gs cap : Nat} {X : List FV} {opn : Bool} {most : Nat}

theorem NIs.cell0 (h : NIs Pr w gn gs cap X opn most) : w.cell? ⟨gn, 0, none⟩ = some (.slice (some ⟨gs, 0, none⟩) X.length cap) ∧ w.cell? ⟨gn, 1, none⟩ = some (.bool opn) ∧ w.cell? ⟨gn, 2, none⟩ = some (.int .i64 (most : Int)) ∧ w.frozen? ⟨gn, 0, none⟩ = false ∧ w.frozen? ⟨gn, 1, none⟩ = false ∧ w.frozen? ⟨gn, 2, none⟩ = false := by
  obtain ⟨c0, c1⟩ := cells_at h.nest
  exact ⟨c0 0, c0 1, c0 2, c1 0, c1 1, c1 2⟩
theorem NIs.capn (h : NIs Pr w gn gs cap X opn most) : X.length ≤ cap := by
  obtain ⟨a, c, e, h1, -⟩ := h.row.slice
  simp only [Value.slice.injEq, true_and] at e
  omega
theorem NIs.boxed (h : NIs Pr w gn gs cap X opn most) (hin : Inw Pr w) (o : Obj) : NIs Pr (w.alloc o) gn gs cap X opn most ∧ Keeps Pr w (w.alloc o) :=
  ⟨h.kept fun _ hk _ => heap_alloc_lt w o hk, Keeps.alloc hin o⟩

set_option maxRecDepth 100000 in
set_option maxHeartbeats 4000000 in
theorem ncall_read (kind off size : Int) (da : Option Addr) (dn dc : Nat) (hin : Inw Pr w) (h : NIs Pr w gn gs cap X opn most) (hx : 0 < X.length) (hl : X.length ≤ 1000) (hk : kind = 1 ∨ kind = 4) :
    Calls Tryz.prog 15 #[.pointer (some ⟨gn, 0, none⟩), .agg #[.int .i64 kind, .int .i64 off, .int .i64 size, .slice da dn dc]] w (NPost Pr w gn ⟨X.map FV.F, opn, most⟩ true) := by
  obtain ⟨x0, -⟩ := h.cell0
  have hb := h.boxed hin (.cells #[.int .i64 kind, .int .i64 off, .int .i64 size, .slice da dn dc] 47)
  have hlt := lt_of_heap h.nest
  obtain ⟨n, hn⟩ : ∃ n, X.length = n + 1 := ⟨X.length - 1, by omega⟩
  rw [hn] at x0
  have HB := Lib.hid hb
  clear h hb
  rcases hk with rfl | rfl
  all_goals
    go_enter Tryz.func15, Tryz.ntmps15
    (repeat (first | go_values | go_skip | go_guarded | go_step | go_upon))
    go_ret
    exact ⟨rfl, gs, cap, X, HB.out.1, rfl, HB.out.2⟩

set_option maxRecDepth 100000 in
set_option maxHeartbeats 4000000 in
theorem ncall_not (kind off size : Int) (da : Option Addr) (dn dc : Nat) (hin : Inw Pr w) (h : NIs Pr w gn gs cap X opn most) (hx : X.length = 1) (hk : kind = 0 ∨ kind = 2 ∨ kind = 6 ∨ kind = 7) :
    Calls Tryz.prog 15 #[.pointer (some ⟨gn, 0, none⟩), .agg #[.int .i64 kind, .int .i64 off, .int .i64 size, .slice da dn dc]] w (NPost Pr w gn ⟨X.map FV.F, opn, most⟩ false) := by
  obtain ⟨x0, -⟩ := h.cell0
  have hb := h.boxed hin (.cells #[.int .i64 kind, .int .i64 off, .int .i64 size, .slice da dn dc] 47)
  have hlt := lt_of_heap h.nest
  rw [hx] at x0
  have HB := Lib.hid hb
  clear h hb
  rcases hk with rfl | rfl | rfl | rfl
  all_goals
    go_enter Tryz.func15, Tryz.ntmps15
    (repeat (first | go_values | go_skip | go_guarded | go_step | go_upon))
    go_ret
    exact ⟨rfl, gs, cap, X, HB.out.1, rfl, HB.out.2⟩

set_option maxRecDepth 100000 in
set_option maxHeartbeats 4000000 in
theorem ncall_rb (off size : Int) (da : Option Addr) (dn dc n : Nat) (hin : Inw Pr w) (h : NIs Pr w gn gs cap X opn most) (hx : X.length = n + 2) (hl : X.length ≤ 1000) :
    Calls Tryz.prog 15 #[.pointer (some ⟨gn, 0, none⟩), .agg #[.int .i64 7, .int .i64 off, .int .i64 size, .slice da dn dc]] w (NPost Pr w gn ⟨(X.take (n + 1)).map FV.F, opn, most⟩ true) := by
  obtain ⟨x0, -, -, f0, -⟩ := h.cell0
  have hlt := lt_of_heap h.nest
  have hcap := h.capn
  rw [hx] at x0 hcap
  have H := Lib.hid h
  have HL := Lib.hid hx
  clear h
  go_enter Tryz.func15, Tryz.ntmps15
  (repeat (first | go_values | go_skip | go_guarded | go_step | go_upon))
  go_ret
  have hc := H.out.cut (n + 1) (by have := HL.out; omega) (w' := w.setCell ⟨gn, 0, none⟩ (.slice (some ⟨gs, 0, none⟩) (n + 1) cap)) (fun k hk => heap_set_other _ _ _ hk) (heap_set_same H.out.nest 0 _)
  have hin' : Inw Pr (w.setCell ⟨gn, 0, none⟩ (.slice (some ⟨gs, 0, none⟩) (n + 1) cap)) := hin.mono (by rw [size_set]; exact Nat.le_refl _)
  have hb := hc.boxed hin' (.cells #[.int .i64 7, .int .i64 off, .int .i64 size, .slice da dn dc] 47)
  exact ⟨rfl, gs, cap, X.take (n + 1), hb.1, rfl, (Keeps.setCell (a := ⟨gn, 0, none⟩) H.out.ng _).trans hb.2⟩
end

end Go.Proofs.YtkkliejgmgmebaaGreatDoor

namespace Go.Proofs.YtkkliejgmgmebaaGreatDoor
open Go.RowKit

section
variable {Pr : Nat → Prop} {w : World} {gn gs cap : Nat} {X : List FV} {opn : Bool} {most : Nat}

theorem set3 {α : Type} (P Q : List α) (a b c x y z : α) (m : Nat) (h : P.length = m) : (((P ++ a :: b :: c :: Q).set m x).set (m + 1) y).set (m + 2) z = P ++ x :: y :: z :: Q := by
  subst h
  simp

/-- the last state goes into the one ahead of it -/
theorem NIs.merge (h : NIs Pr w gn gs cap X opn most) {n : Nat} {x : FV} (hx : X.length = n + 2) (hi : X[n + 1]? = some x) {opn' : Bool} {w' : World}
    (hg : w'.heap[gs]? = (((w.setCell ⟨gs, n * 3, none⟩ x.vd).setCell ⟨gs, n * 3 + 1, none⟩ x.vk).setCell ⟨gs, n * 3 + 2, none⟩ x.vw).heap[gs]?)
    (hn : w'.heap[gn]? = some (.cells #[.slice (some ⟨gs, 0, none⟩) (n + 1) cap, .bool opn', .int .i64 (most : Int)] 37 (0, 0))) (ho : ∀ k, k ≠ gn → k ≠ gs → w'.heap[k]? = w.heap[k]?) : NIs Pr w' gn gs cap (X.take n ++ [x]) opn' most := by
  have hcap := h.capn
  obtain ⟨y, hy⟩ : ∃ y, X[n]? = some y := ⟨_, List.getElem?_eq_getElem (by omega)⟩
  have hl : (X.take n ++ [x]).length = n + 1 := by rw [List.length_append, List.length_take]; simp; omega
  have hr := (((h.row.stored (n * 3) x.vd).stored (n * 3 + 1) x.vk).stored (n * 3 + 2) x.vw)
  have hrow : Row Pr w' 34 3 (.slice (some ⟨gs, 0, none⟩) X.length cap) X.length ((((X.flatMap FV.cells).set (n * 3) x.vd).set (n * 3 + 1) x.vk).set (n * 3 + 2) x.vw) := hr.kept fun k hk => by
    obtain rfl : gs = k := by simpa [Value.ownBlock] using hk
    exact hg
  have hti : ((X.take n).flatMap FV.cells).length = n * 3 := by rw [flat_len, List.length_take]; congr 1; omega
  have e : (((X.flatMap FV.cells).set (n * 3) x.vd).set (n * 3 + 1) x.vk).set (n * 3 + 2) x.vw = (X.take n ++ [x]).flatMap FV.cells ++ (X.drop (n + 1)).flatMap FV.cells := by
    conv => lhs; rw [split_at hy]
    rw [List.flatMap_append, List.flatMap_cons]
    have := set3 ((X.take n).flatMap FV.cells) ((X.drop (n + 1)).flatMap FV.cells) y.vd y.vk y.vw x.vd x.vk x.vw (n * 3) hti
    refine this.trans ?_
    simp
  rw [e] at hrow
  have hcut := hrow.cut (n + 1) cap (by omega) (by omega) (Nat.le_refl _)
  rw [List.take_left' (by rw [flat_len, hl])] at hcut
  have hx' : ∀ (i : Nat) (z : FV), (X.take n ++ [x])[i]? = some z → (i < n ∧ X[i]? = some z) ∨ (i = n ∧ X[n + 1]? = some z) := fun i z hz => by
    by_cases hin : i < n
    · rw [List.getElem?_append_left (by rw [List.length_take]; omega), List.getElem?_take_of_lt hin] at hz
      exact .inl ⟨hin, hz⟩
    · have hil : i < n + 1 := by rw [← hl]; exact (List.getElem?_eq_some_iff.1 hz).1
      obtain rfl : i = n := by omega
      rw [List.getElem?_append_right (by rw [List.length_take]; omega), List.length_take, show i - min i X.length = 0 by omega] at hz
      simp only [List.getElem?_cons_zero, Option.some.injEq] at hz
      subst hz
      exact .inr ⟨rfl, hi⟩
  refine ⟨by rw [hl]; exact hn, h.ng, by rw [hl]; exact hcut, fun i z hz => ?_, fun i j z1 z2 hij h1 h2 k => ?_⟩
  · rcases hx' i z hz with ⟨-, h1⟩ | ⟨-, h1⟩
    · exact (h.val _ _ h1).keepOwn fun k hk => ho k (h.own_lt h1 hk).2.2.1 (h.own_lt h1 hk).2.2.2
    · exact (h.val _ _ h1).keepOwn fun k hk => ho k (h.own_lt h1 hk).2.2.1 (h.own_lt h1 hk).2.2.2
  · rcases hx' i z1 h1 with ⟨a1, b1⟩ | ⟨a1, b1⟩
    · rcases hx' j z2 h2 with ⟨a2, b2⟩ | ⟨a2, b2⟩
      · exact h.dis i j z1 z2 hij b1 b2 k
      · exact h.dis i (n + 1) z1 z2 (by omega) b1 b2 k
    · have hj : j < n + 1 := by rw [← hl]; exact (List.getElem?_eq_some_iff.1 h2).1
      omega

theorem NIs.mergeAt (h : NIs Pr w gn gs cap X opn most) {n : Nat} {x : FV} (hx : X.length = n + 2) (hi : X[n + 1]? = some x) :
    NIs Pr ((((w.setCell ⟨gs, n * 3, none⟩ x.vd).setCell ⟨gs, n * 3 + 1, none⟩ x.vk).setCell ⟨gs, n * 3 + 2, none⟩ x.vw).setCell ⟨gn, 0, none⟩ (.slice (some ⟨gs, 0, none⟩) (n + 1) cap)) gn gs cap (X.take n ++ [x]) opn most ∧
      Keeps Pr w ((((w.setCell ⟨gs, n * 3, none⟩ x.vd).setCell ⟨gs, n * 3 + 1, none⟩ x.vk).setCell ⟨gs, n * 3 + 2, none⟩ x.vw).setCell ⟨gn, 0, none⟩ (.slice (some ⟨gs, 0, none⟩) (n + 1) cap)) := by
  have hne := h.ne
  have ns : ¬ Pr gs := (h.row.own (k := gs) rfl).2.1
  have h3 : ∀ k, k ≠ gs → (((w.setCell ⟨gs, n * 3, none⟩ x.vd).setCell ⟨gs, n * 3 + 1, none⟩ x.vk).setCell ⟨gs, n * 3 + 2, none⟩ x.vw).heap[k]? = w.heap[k]? := fun k hk => by
    rw [heap_set_other _ _ _ hk, heap_set_other _ _ _ hk, heap_set_other _ _ _ hk]
  refine ⟨h.merge hx hi (heap_set_other _ _ _ (Ne.symm hne)) (heap_set_same ((h3 gn hne).trans h.nest) 0 _) fun k h1 h2 => (heap_set_other _ _ _ h1).trans (h3 k h2), ?_⟩
  exact (((Keeps.setCell (a := ⟨gs, n * 3, none⟩) ns _).trans (Keeps.setCell (a := ⟨gs, n * 3 + 1, none⟩) ns _)).trans (Keeps.setCell (a := ⟨gs, n * 3 + 2, none⟩) ns _)).trans (Keeps.setCell (a := ⟨gn, 0, none⟩) h.ng _)

theorem NIs.drew (h : NIs Pr w gn gs cap X opn most) : NIs Pr w.drew gn gs cap X opn most := h.kept fun _ _ _ => rfl

set_option maxRecDepth 100000 in
set_option maxHeartbeats 4000000 in
theorem ncall_end2 (off size : Int) (da : Option Addr) (dn dc n : Nat) (x : FV) (hin : Inw Pr w) (h : NIs Pr w gn gs cap X opn most) (hx : X.length = n + 3) (hl : X.length ≤ 1000) (hi : X[n + 2]? = some x) :
    Calls Tryz.prog 15 #[.pointer (some ⟨gn, 0, none⟩), .agg #[.int .i64 6, .int .i64 off, .int .i64 size, .slice da dn dc]] w (NPost Pr w gn ⟨(X.take (n + 1) ++ [x]).map FV.F, opn, most⟩ true) := by
  obtain ⟨vd, vk, vw, F⟩ := x
  have hv : FileVal Pr w vd vk vw F := h.val _ _ hi
  obtain ⟨ad, cd, rfl, -⟩ := hv.rd.slice
  obtain ⟨ak, ck, rfl, -⟩ := hv.rk.slice
  obtain ⟨aw, cw, rfl, -⟩ := hv.rw.slice
  clear hv
  obtain ⟨x0, -, -, f0, -⟩ := h.cell0
  have hlt := lt_of_heap h.nest
  have hcap := h.capn
  rw [hx] at x0 hcap
  obtain ⟨g, hgb, hgo, hf, -⟩ := h.file hi
  obtain ⟨y0, y1, y2, -⟩ := hf.cells
  obtain ⟨y, hy⟩ : ∃ y, X[n + 1]? = some y := ⟨_, List.getElem?_eq_getElem (by omega)⟩
  obtain ⟨g2, hgb2, hgo2, hf2, -⟩ := h.file hy
  obtain ⟨t0, t1, t2, z0, z1, z2⟩ := hf2.cells
  rw [hgb, hgo] at y0 y1 y2
  rw [hgb2, hgo2] at t0 t1 t2 z0 z1 z2
  have e3 : n + 3 - 1 - 1 = n + 1 := by omega
  have w0 := t0
  have w1 := t1
  have w2 := t2
  have v0 := z0
  have v1 := z1
  have v2 := z2
  rw [← e3] at w0 w1 w2 v0 v1 v2
  clear e3
  have hgs := (h.row.own (k := gs) rfl).1
  have hne := h.ne
  have H := Lib.hid h
  have HL := Lib.hid hx
  have HI := Lib.hid hi
  clear h hf hf2 hgb hgb2 hgo hgo2 hi hy
  simp only at y0 y1 y2 HI
  go_enter Tryz.func15, Tryz.ntmps15
  (repeat (first | go_values | go_skip | go_guarded | go_step | go_upon))
  go_region
  (repeat (first | go_values | go_skip | go_guarded | go_step | go_upon))
  go_ret
  obtain ⟨hM, hK⟩ := H.out.mergeAt (n := n + 1) HL.out HI.out
  obtain ⟨hb1, hb2⟩ := hM.boxed (hK.inw hin) (.cells #[.int .i64 6, .int .i64 off, .int .i64 size, .slice da dn dc] 47)
  exact ⟨rfl, gs, cap, _, hb1.drew, rfl, (hK.trans hb2).trans (Keeps.drew _ _)⟩
end

end Go.Proofs.YtkkliejgmgmebaaGreatDoor
