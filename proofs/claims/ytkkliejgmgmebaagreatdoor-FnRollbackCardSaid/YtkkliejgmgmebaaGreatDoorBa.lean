/-
  What is kept of a world: the blocks that are named, and the streams. A slice that owns a row, with spare cells behind it.
-/
import Derived.WalkKit
import Derived.Lib.Hide
import Derived.Lib.SliceRun
import Derived.WalkSpells
namespace Go.Proofs.YtkkliejgmgmebaaGreatDoor
open Go.RowKit

/-- the blocks that Pr names are as they were; no block has gone -/
structure Keeps (Pr : Nat → Prop) (w w' : World) : Prop where
  os : w'.os = w.os
  tape : w'.tape = w.tape
  output : w'.output = w.output
  size : w.heap.size ≤ w'.heap.size
  block : ∀ k, Pr k → w'.heap[k]? = w.heap[k]?

/-- what is named lies in the world -/
def Inw (Pr : Nat → Prop) (w : World) : Prop := ∀ k, Pr k → k < w.heap.size

theorem Inw.new {Pr : Nat → Prop} {w : World} (h : Inw Pr w) : ¬ Pr w.heap.size := fun k => Nat.lt_irrefl _ (h _ k)
theorem Inw.mono {Pr : Nat → Prop} {w w' : World} (h : Inw Pr w) (hs : w.heap.size ≤ w'.heap.size) : Inw Pr w' := fun k hk => Nat.lt_of_lt_of_le (h k hk) hs

section
variable {Pr : Nat → Prop} {w w' w'' : World}

theorem Keeps.refl (Pr : Nat → Prop) (w : World) : Keeps Pr w w := ⟨rfl, rfl, rfl, Nat.le_refl _, fun _ _ => rfl⟩
theorem Keeps.trans (h : Keeps Pr w w') (k : Keeps Pr w' w'') : Keeps Pr w w'' :=
  ⟨k.os.trans h.os, k.tape.trans h.tape, k.output.trans h.output, Nat.le_trans h.size k.size, fun i hi => (k.block i hi).trans (h.block i hi)⟩
theorem Keeps.mono {Pr' : Nat → Prop} (h : Keeps Pr w w') (hp : ∀ k, Pr' k → Pr k) : Keeps Pr' w w' := ⟨h.os, h.tape, h.output, h.size, fun k hk => h.block k (hp k hk)⟩
theorem Keeps.inw (h : Keeps Pr w w') (hi : Inw Pr w) : Inw Pr w' := hi.mono h.size
theorem Keeps.alloc (hi : Inw Pr w) (o : Obj) : Keeps Pr w (w.alloc o) := ⟨rfl, rfl, rfl, by simp, fun k hk => Below.heap_alloc _ _ _ (hi k hk)⟩
theorem Keeps.setCell {a : Addr} (hn : ¬ Pr a.block) (v : Value) : Keeps Pr w (w.setCell a v) :=
  ⟨rfl, rfl, rfl, by simp [World.setCell], fun k hk => Below.heap_setCell _ _ _ _ (fun e => hn (e ▸ hk))⟩
theorem Keeps.drew (Pr : Nat → Prop) (w : World) : Keeps Pr w w.drew := ⟨rfl, rfl, rfl, Nat.le_refl _, fun _ _ => rfl⟩
theorem Keeps.setRow {g : Nat} (hn : ¬ Pr g) (cs : Array Value) : Keeps Pr w (w.setRow g cs) :=
  ⟨rfl, rfl, rfl, by simp [World.setRow], fun k hk => setRow_other _ _ _ _ (fun e => hn (e ▸ hk))⟩
theorem Keeps.grown {row : Option Nat} (hi : Inw Pr w) (hg : w.grownBy w' row) (hr : ∀ k, row = some k → ¬ Pr k) : Keeps Pr w w' :=
  ⟨hg.os, hg.tape, hg.output, hg.size, fun k hk => hg.block k (hi k hk) (fun e => hr k e.symm hk)⟩
theorem Keeps.below {B : Nat} (h : Keeps Pr w w') (hp : ∀ k, k < B → Pr k) : Below B w w' := ⟨h.os, h.tape, h.output, h.size, fun k hk => h.block k (hp k hk)⟩
theorem Keeps.of_below {B : Nat} (h : Below B w w') (hp : ∀ k, Pr k → k < B) : Keeps Pr w w' := ⟨h.os, h.tape, h.output, h.size, fun k hk => h.block k (hp k hk)⟩
theorem Keeps.cell (h : Keeps Pr w w') {a : Addr} (ha : Pr a.block) : w'.cell? a = w.cell? a := World.cell?_of_block (h.block _ ha)
theorem Keeps.frozen (h : Keeps Pr w w') {a : Addr} (ha : Pr a.block) : w'.frozen? a = w.frozen? a := World.frozen?_of_block (h.block _ ha)
end

theorem lt_of_heap {w : World} {g : Nat} {o : Obj} (h : w.heap[g]? = some o) : g < w.heap.size := (Array.getElem?_eq_some_iff.1 h).1

/-- v is a slice of n elements that owns a row of a block that Pr does not name -/
def Row (Pr : Nat → Prop) (w : World) (e : TypeId) (size : Nat) (v : Value) (n : Nat) (xs : List Value) : Prop :=
  xs.length = n * size ∧
  ((v = .slice none 0 0 ∧ n = 0) ∨
   ∃ g cap cur, v = .slice (some ⟨g, 0, none⟩) n cap ∧ ¬ Pr g ∧ w.heap[g]? = some (.cells cur e (0, 0)) ∧ n ≤ cap ∧ cap ≤ maxLen ∧ cap * size ≤ cur.size ∧ cur.toList.take (n * size) = xs)

section
variable {Pr : Nat → Prop} {w : World} {e : TypeId} {size : Nat} {v : Value} {n : Nat} {xs : List Value}

theorem Row.slice (h : Row Pr w e size v n xs) : ∃ a c, v = .slice a n c ∧ n ≤ c ∧ c ≤ maxLen ∧ (a = none → n = 0 ∧ c = 0) := by
  rcases h.2 with ⟨rfl, rfl⟩ | ⟨g, cap, cur, rfl, -, -, hn, hc, -⟩
  · exact ⟨_, _, rfl, Nat.le_refl _, Nat.zero_le _, fun _ => ⟨rfl, rfl⟩⟩
  · exact ⟨_, _, rfl, hn, hc, fun h => by cases h⟩

theorem Row.own (h : Row Pr w e size v n xs) {k : Nat} (hk : v.ownBlock = some k) : k < w.heap.size ∧ ¬ Pr k ∧ ∃ cur, w.heap[k]? = some (.cells cur e (0, 0)) := by
  rcases h.2 with ⟨rfl, _⟩ | ⟨g, cap, cur, rfl, hp, hg, _⟩
  · simp [Value.ownBlock] at hk
  · simp [Value.ownBlock] at hk
    subst hk
    exact ⟨lt_of_heap hg, hp, _, hg⟩

theorem Row.nil (Pr : Nat → Prop) (w : World) (e : TypeId) (size : Nat) : Row Pr w e size (.slice none 0 0) 0 [] := ⟨by simp, .inl ⟨rfl, rfl⟩⟩

theorem Row.kept {w' : World} (h : Row Pr w e size v n xs) (hk : ∀ k, v.ownBlock = some k → w'.heap[k]? = w.heap[k]?) : Row Pr w' e size v n xs := by
  refine ⟨h.1, ?_⟩
  rcases h.2 with hn | ⟨g, cap, cur, rfl, hp, hg, r⟩
  · exact .inl hn
  · exact .inr ⟨g, cap, cur, rfl, hp, (hk g rfl).trans hg, r⟩

theorem Row.alloc (h : Row Pr w e size v n xs) (o : Obj) : Row Pr (w.alloc o) e size v n xs :=
  h.kept fun _ hk => Below.heap_alloc _ _ _ (h.own hk).1

theorem Row.drew (h : Row Pr w e size v n xs) : Row Pr w.drew e size v n xs := h

theorem Row.setCell {a : Addr} (h : Row Pr w e size v n xs) (ha : v.ownBlock ≠ some a.block) (u : Value) : Row Pr (w.setCell a u) e size v n xs :=
  h.kept fun _ hk => Below.heap_setCell _ _ _ _ (fun e => ha (by rw [← e]; exact hk))

theorem Row.widen {Pr' : Nat → Prop} (h : Row Pr w e size v n xs) (hp : ∀ k, v.ownBlock = some k → ¬ Pr' k) : Row Pr' w e size v n xs := by
  refine ⟨h.1, ?_⟩
  rcases h.2 with hn | ⟨g, cap, cur, rfl, _, hg, r⟩
  · exact .inl hn
  · exact .inr ⟨g, cap, cur, rfl, hp g rfl, hg, r⟩

theorem Row.ne (h : Row Pr w e size v n xs) {k : Nat} (hk : Pr k) : v.ownBlock ≠ some k := fun he => (h.own he).2.1 hk

theorem Row.neElem (h : Row Pr w e size v n xs) {k : Nat} {e' : TypeId} {cs : Array Value} {fr : Nat × Nat} (hk : w.heap[k]? = some (.cells cs e' fr)) (he : e ≠ e') : v.ownBlock ≠ some k := fun ho => by
  obtain ⟨-, -, cur, hc⟩ := h.own ho
  rw [hk] at hc
  simp only [Option.some.injEq, Obj.cells.injEq] at hc
  exact he hc.2.1.symm

theorem Row.neRow {Pr' : Nat → Prop} {e' : TypeId} {size' : Nat} {v' : Value} {n' : Nat} {xs' : List Value} (h : Row Pr w e size v n xs) (h' : Row Pr' w e' size' v' n' xs') (he : e ≠ e') {k : Nat} (hk : v.ownBlock = some k) : v'.ownBlock ≠ some k := fun hk' => by
  obtain ⟨-, -, cur, hc⟩ := h'.own hk'
  exact h.neElem hc he hk

theorem Row.cellAt {g cap : Nat} (h : Row Pr w e size (.slice (some ⟨g, 0, none⟩) n cap) n xs) (j : Nat) (hj : j < n * size) : w.cell? ⟨g, j, none⟩ = xs[j]? := by
  rcases h.2 with ⟨h0, _⟩ | ⟨g', cap', cur, hv, _, hg, _, _, _, ht⟩
  · simp at h0
  · simp only [Value.slice.injEq, Option.some.injEq, Addr.mk.injEq, true_and, and_true] at hv
    obtain ⟨rfl, rfl⟩ := hv
    rw [cell_of_row w g j cur e (0, 0) hg, ← ht, List.getElem?_take_of_lt hj, Array.getElem?_toList]

theorem Row.frozenAt {g cap : Nat} (h : Row Pr w e size (.slice (some ⟨g, 0, none⟩) n cap) n xs) (j : Nat) : w.frozen? ⟨g, j, none⟩ = false := by
  rcases h.2 with ⟨h0, _⟩ | ⟨g', cap', cur, hv, _, hg, _⟩
  · simp at h0
  · simp only [Value.slice.injEq, Option.some.injEq, Addr.mk.injEq, true_and, and_true] at hv
    obtain ⟨rfl, rfl⟩ := hv
    exact frozen_of_row w g j cur e hg

theorem Row.cells (h : Row Pr w e size v n xs) {g : Nat} (hg : v.ownBlock = some g) : ∀ j u, xs[j]? = some u → w.cell? ((⟨g, 0, none⟩ : Addr).add j) = some u := by
  intro j u hu
  rcases h.2 with ⟨rfl, _⟩ | ⟨g', cap, cur, rfl, _, hgg, _, _, _, htake⟩
  · simp [Value.ownBlock] at hg
  · simp [Value.ownBlock] at hg
    subst hg
    have hadd : (⟨g', 0, none⟩ : Addr).add j = ⟨g', j, none⟩ := by unfold Addr.add; split <;> simp_all
    rw [hadd, cell_of_row w g' j cur e (0, 0) hgg]
    rw [← htake, List.getElem?_take] at hu
    split at hu
    · simpa using hu
    · cases hu

/-- a store into the row -/
theorem Row.stored {g cap : Nat} (h : Row Pr w e size (.slice (some ⟨g, 0, none⟩) n cap) n xs) (j : Nat) (u : Value) :
    Row Pr (w.setCell ⟨g, j, none⟩ u) e size (.slice (some ⟨g, 0, none⟩) n cap) n (xs.set j u) := by
  refine ⟨by rw [List.length_set]; exact h.1, ?_⟩
  rcases h.2 with ⟨h0, _⟩ | ⟨g', cap', cur, hv, hp, hg, h1, h2, h3, ht⟩
  · simp at h0
  · simp only [Value.slice.injEq, Option.some.injEq, Addr.mk.injEq, true_and, and_true] at hv
    obtain ⟨rfl, rfl⟩ := hv
    refine .inr ⟨g, cap, cur.setIfInBounds j u, rfl, hp, ?_, h1, h2, by simpa using h3, ?_⟩
    · exact heap_setCell_same w g j cur e u hg
    · rw [Array.toList_setIfInBounds, List.take_set, ht]

/-- cut at its end, and at its capacity -/
theorem Row.cut {a : Option Addr} {c : Nat} (h : Row Pr w e size (.slice a n c) n xs) (m c' : Nat) (hm : m ≤ n) (hmc : m ≤ c') (hc : c' ≤ c) : Row Pr w e size (.slice a m c') m (xs.take (m * size)) := by
  refine ⟨by rw [List.length_take, h.1]; exact Nat.min_eq_left (Nat.mul_le_mul_right _ hm), ?_⟩
  rcases h.2 with ⟨h0, h1⟩ | ⟨g, cap, cur, hv, hp, hg, h1, h2, h3, ht⟩
  · simp only [Value.slice.injEq] at h0
    obtain ⟨rfl, rfl, rfl⟩ := h0
    obtain rfl : m = 0 := by omega
    obtain rfl : c' = 0 := by omega
    exact .inl ⟨rfl, rfl⟩
  · simp only [Value.slice.injEq, true_and] at hv
    obtain ⟨rfl, rfl⟩ := hv
    refine .inr ⟨g, c', cur, rfl, hp, hg, hmc, Nat.le_trans hc h2, Nat.le_trans (Nat.mul_le_mul_right _ hc) h3, ?_⟩
    rw [← ht, List.take_take, Nat.min_eq_left (Nat.mul_le_mul_right _ hm)]

/-- a row that was just made -/
theorem Row.new (Pr : Nat → Prop) (w : World) (hi : ¬ Pr w.heap.size) (cur : Array Value) (n cap : Nat) (hn : n ≤ cap) (hm : cap ≤ maxLen) (hs : cap * size ≤ cur.size) (hx : cur.toList.take (n * size) = xs) :
    Row Pr (w.alloc (.cells cur e)) e size (.slice (some ⟨w.heap.size, 0, none⟩) n cap) n xs := by
  refine ⟨?_, .inr ⟨w.heap.size, cap, cur, rfl, hi, heap_alloc_new w _, hn, hm, hs, hx⟩⟩
  rw [← hx, List.length_take, Array.length_toList]
  exact Nat.min_eq_left (Nat.le_trans (Nat.mul_le_mul_right _ hn) hs)

theorem size_zeroCells' (z : Array Value) (n : Nat) : (Builtin.zeroCells z n).size = n * z.size := by simp [Builtin.zeroCells]
theorem zeroCells_one (z : Value) (n : Nat) : (Builtin.zeroCells #[z] n).toList = List.replicate n z := by
  apply List.ext_getElem?
  intro j
  by_cases hj : j < n
  · simp [Builtin.zeroCells, hj, Nat.mod_one]
  · simp [Builtin.zeroCells, hj]

/-- AN APPEND of cells that lie anywhere. -/
theorem run_append_row {P : Program} (hnew : ¬ Pr w.heap.size) (t ty : TypeId) (i : TypeInfo) (z : Value) (bytes : Nat) (ht : P.underlying t = some (.slice e)) (hi : P.info? e = some i) (hz : i.zero = some z)
    (hsize : i.size = size) (hby : i.bytes = bytes) (hzs : z.cells.size = size) (hrow : Row Pr w e size v n xs)
    (a : Addr) (m c : Nat) (news : List Value) (hl : news.length = m * size) (hnews : ∀ j u, news[j]? = some u → w.cell? (a.add j) = some u) (h1 : ∀ u ∈ news, u.oneCell' = true)
    (h63 : n + m ≤ maxLen) (hbytes : (n + m) * bytes ≤ 140737488355328) :
    ∃ v' w', (Builtin.append_ #[t, t] ty #[v, .slice (some a) m c]).run P w = .ok v' w' ∧ Row Pr w' e size v' (n + m) (xs ++ news) ∧ w.grownBy w' v.ownBlock ∧
      (v'.ownBlock = v.ownBlock ∨ v'.ownBlock = some w.heap.size) := by
  subst hsize
  subst hby
  have hsmall : n + m ≤ 9223372036854775807 := by simp only [maxLen] at h63; omega
  have hlen : (xs ++ news).length = (n + m) * i.size := by rw [List.length_append, hrow.1, hl, Nat.add_mul]
  have grown : ∀ (old : Nat), old < n + m → ∀ (row : Option Nat),
      Row Pr (w.drew.alloc (.cells (xs.toArray ++ news.toArray ++ Builtin.zeroCells z.cells (grownCap w (n + m) old e - (n + m))) e)) e i.size
        (.slice (some ⟨w.heap.size, 0, none⟩) (n + m) (grownCap w (n + m) old e)) (n + m) (xs ++ news) ∧
      w.grownBy (w.drew.alloc (.cells (xs.toArray ++ news.toArray ++ Builtin.zeroCells z.cells (grownCap w (n + m) old e - (n + m))) e)) row := by
    intro old ho row
    have hge := grownCap_ge w (n + m) old e
    have hcm : grownCap w (n + m) old e ≤ maxLen := grownCap_le_maxLen w (n + m) old e h63
    refine ⟨Row.new Pr w.drew hnew _ (n + m) _ hge hcm ?_ ?_, ⟨rfl, rfl, rfl, by simp, fun k hk _ => Below.heap_alloc w.drew _ k hk⟩⟩
    · simp only [Array.size_append, List.size_toArray, size_zeroCells', hzs, hrow.1, hl, ← Nat.add_mul]
      refine Nat.le_of_eq ?_
      congr 1
      omega
    · simp only [Array.toList_append, List.append_assoc]
      rw [← List.append_assoc, ← hlen]
      exact List.take_left
  rcases hrow.2 with ⟨rfl, rfl⟩ | ⟨g, cap, cur, rfl, hbg, hg, hnc, hcm, hcs, htake⟩
  · have hx : xs = [] := List.eq_nil_of_length_eq_zero (by simpa using hrow.1)
    subst hx
    by_cases hm : m = 0
    · subst hm
      have hn : news = [] := List.eq_nil_of_length_eq_zero (by simpa using hl)
      subst hn
      refine ⟨.slice none 0 0, w, ?_, Row.nil Pr w e i.size, ⟨rfl, rfl, rfl, Nat.le_refl _, fun _ _ _ => rfl⟩, .inl rfl⟩
      simp [Builtin.append_, run_underlying ht, sizeOf, typeInfo, hi, Builtin.lenOf, Builtin.firstCells, loadCells, loadCellsFrom]
    · have hr := run_append_nil (P := P) w t ty e i z ht hi hz a m c news hl hnews (by omega) (by omega) (by have hb := hbytes; simp only [Nat.zero_add] at hb; omega)
      have hgr := grown 0 (by omega) (Value.ownBlock (.slice none 0 0))
      simp only [Nat.zero_add, List.nil_append, Array.empty_append] at hgr ⊢
      exact ⟨_, _, hr, hgr.1, hgr.2, .inr rfl⟩
  · by_cases hroom : n + m ≤ cap
    · have hfit : n * i.size + news.length ≤ cur.size := by rw [hl, ← Nat.add_mul]; exact Nat.le_trans (Nat.mul_le_mul_right _ hroom) hcs
      have hr := run_append_room (P := P) w t ty e i ht hi g n cap cur hg a m c news hl hnews h1 hroom hfit
      refine ⟨_, _, hr, ⟨hlen, .inr ⟨g, cap, _, rfl, hbg, setRow_heap w g cur _ e _ hg, hroom, hcm, ?_, ?_⟩⟩, ⟨rfl, rfl, rfl, by simp, fun k hk hk' => setRow_other w g k _ (fun e => hk' (by simp [Value.ownBlock, e]))⟩, .inl rfl⟩
      · simp only [List.size_toArray, List.length_append, List.length_take, List.length_drop, Array.length_toList]
        omega
      · rw [htake, ← hlen]
        exact List.take_left
    · have holds : ∀ j u, xs[j]? = some u → w.cell? ((⟨g, 0, none⟩ : Addr).add j) = some u := hrow.cells (g := g) rfl
      have hr := run_append_grow (P := P) w t ty e i z ht hi hz ⟨g, 0, none⟩ n cap xs hrow.1 holds a m c news hl hnews (by omega) (by omega) (growslice_fits (by omega) hbytes)
      have hgr := grown cap (by omega) (Value.ownBlock (.slice (some ⟨g, 0, none⟩) n cap))
      exact ⟨_, _, hr, hgr.1, hgr.2, .inr rfl⟩

/-- AN APPEND of nothing. -/
theorem run_append_none {P : Program} (w : World) (t ty e : TypeId) (i : TypeInfo) (ht : P.underlying t = some (.slice e)) (hi : P.info? e = some i) (va : Option Addr) (vn vc : Nat) (hv : vn ≤ vc) (hn : va = none → vn = 0 ∧ vc = 0) (b : Option Addr) (c : Nat) :
    (Builtin.append_ #[t, t] ty #[.slice va vn vc, .slice b 0 c]).run P w = .ok (.slice va vn vc) w := by
  cases va with
  | none =>
    obtain ⟨rfl, rfl⟩ := hn rfl
    cases b <;> simp [Builtin.append_, run_underlying ht, sizeOf, typeInfo, hi, Builtin.lenOf, Builtin.firstCells, loadCells, loadCellsFrom]
  | some a =>
    cases b <;> simp [Builtin.append_, run_underlying ht, sizeOf, typeInfo, hi, Builtin.lenOf, Builtin.firstCells, loadCells, loadCellsFrom, storeCells, hv]

/-- AN APPEND OF ZEROS: append(s, make([]T, m)...): the translation hands the number on. -/
theorem run_append_zeros {P : Program} (hnew : ¬ Pr w.heap.size) (t ti ty : TypeId) (ik : IntKind) (i : TypeInfo) (z : Value) (ht : P.underlying t = some (.slice e)) (hti : P.underlying ti = some (.int ik)) (hi : P.info? e = some i) (hz : i.zero = some z)
    (hsize : i.size = 1) (hby : i.bytes = 1) (hzs : z.cells = #[z]) (h1 : z.oneCell' = true) (hrow : Row Pr w e 1 v n xs) (m : Nat) (hnm : n + m ≤ 140737488355328) :
    ∃ v' w', (Builtin.append_ #[t, ti] ty #[v, .int .i64 (m : Int)]).run P w = .ok v' w' ∧ Row Pr w' e 1 v' (n + m) (xs ++ List.replicate m z) ∧ w.grownBy w' v.ownBlock ∧
      (v'.ownBlock = v.ownBlock ∨ v'.ownBlock = some w.heap.size) := by
  have wl : IntKind.i64.wrap (m : Int) = m := by rw [IntKind.wrap_i64]; omega
  have w0 : IntKind.i64.wrap 0 = 0 := by rw [IntKind.wrap_i64]; omega
  have h63 : n + m ≤ maxLen := by unfold maxLen; omega
  have hlen : (xs ++ List.replicate m z).length = (n + m) * 1 := by rw [List.length_append, hrow.1, List.length_replicate]; omega
  have n1 : ¬ ((m : Int) < 0) := by omega
  have n2 : ¬ ((281474976710656 : Int) < m) := by omega
  have zc : Builtin.zeroCells z.cells m = (List.replicate m z).toArray := by rw [hzs, ← zeroCells_one]
  have grown : ∀ (old : Nat), old < n + m → ∀ (row : Option Nat),
      Row Pr (w.drew.alloc (.cells (xs.toArray ++ (List.replicate m z).toArray ++ Builtin.zeroCells z.cells (grownCap w (n + m) old e - (n + m))) e)) e 1
        (.slice (some ⟨w.heap.size, 0, none⟩) (n + m) (grownCap w (n + m) old e)) (n + m) (xs ++ List.replicate m z) ∧
      w.grownBy (w.drew.alloc (.cells (xs.toArray ++ (List.replicate m z).toArray ++ Builtin.zeroCells z.cells (grownCap w (n + m) old e - (n + m))) e)) row := by
    intro old ho row
    have hge := grownCap_ge w (n + m) old e
    have hcm : grownCap w (n + m) old e ≤ maxLen := grownCap_le_maxLen w (n + m) old e h63
    have hl0 := hrow.1
    refine ⟨Row.new Pr w.drew hnew _ (n + m) _ hge hcm ?_ ?_, ⟨rfl, rfl, rfl, by simp, fun k hk _ => Below.heap_alloc w.drew _ k hk⟩⟩
    · simp only [Array.size_append, List.size_toArray, size_zeroCells', hzs, List.length_replicate, hl0, List.length_cons, List.length_nil, Nat.zero_add, Nat.mul_one]
      omega
    · simp only [Array.toList_append, List.append_assoc]
      rw [← List.append_assoc, ← hlen]
      exact List.take_left
  rcases hrow.2 with ⟨rfl, rfl⟩ | ⟨g, cap, cur, rfl, hbg, hg, hnc, hcm, hcs, htake⟩
  · have hx : xs = [] := List.eq_nil_of_length_eq_zero (by simpa using hrow.1)
    subst hx
    by_cases hm : m = 0
    · subst hm
      refine ⟨.slice none 0 0, w, ?_, Row.nil Pr w e 1, ⟨rfl, rfl, rfl, Nat.le_refl _, fun _ _ _ => rfl⟩, .inl rfl⟩
      simp [Builtin.append_, run_underlying ht, run_underlying hti, sizeOf, typeInfo, hi, asInt, asIntOf, hby, w0]
    · have hgr := grown 0 (by omega) (Value.ownBlock (.slice none 0 0))
      simp only [Nat.zero_add, List.nil_append, Array.empty_append] at hgr ⊢
      refine ⟨_, _, ?_, hgr.1, hgr.2, .inr rfl⟩
      have h48 : ¬ (281474976710656 < Builtin.nextslicecap m 0) := by rw [nextslicecap_zero (by omega)]; omega
      have n3 : ¬ ((9223372036854775807 : Int) < m) := by omega
      simp [Builtin.append_, run_underlying ht, run_underlying hti, sizeOf, typeInfo, zeroValue, hi, hz, asInt, asIntOf, hby, hsize, wl, n1, n2, n3, hm, h48, Question.forced, Builtin.firstCells, newRow, grownCap, zc, askRoom]
  · by_cases hroom : n + m ≤ cap
    · have hst := run_storeCells_at P g n e (List.replicate m z) 0 cur w hg (by simp; omega) (fun u hu => by rw [(List.mem_replicate.1 hu).2]; exact h1)
      simp only [Nat.add_zero] at hst
      refine ⟨.slice (some ⟨g, 0, none⟩) (n + m) cap, w.setRow g (cur.toList.take n ++ List.replicate m z ++ cur.toList.drop (n + (List.replicate m z).length)).toArray, ?_, ⟨hlen, .inr ⟨g, cap, _, rfl, hbg, setRow_heap w g cur _ e _ hg, hroom, hcm, ?_, ?_⟩⟩, ⟨rfl, rfl, rfl, by simp, fun k hk hk' => setRow_other w g k _ (fun e => hk' (by simp [Value.ownBlock, e]))⟩, .inl rfl⟩
      · by_cases hm : m = 0
        · subst hm
          have hs0 : w.setRow g cur = w := setRow_self w g cur e (0, 0) hg
          simp [Builtin.append_, run_underlying ht, run_underlying hti, sizeOf, typeInfo, hi, asInt, asIntOf, hby, w0, storeCells, hs0, hnc]
        · simp [Builtin.append_, run_underlying ht, run_underlying hti, sizeOf, typeInfo, zeroValue, hi, hz, asInt, asIntOf, hby, hsize, wl, n1, n2, hm, hroom, zc, Addr.add_lit, hst]
      · simp only [List.size_toArray, List.length_append, List.length_take, List.length_drop, Array.length_toList, List.length_replicate]
        omega
      · have htk : cur.toList.take n = xs := by rw [← htake, Nat.mul_one]
        rw [htk, ← hlen]
        exact List.take_left
    · have hgr := grown cap (by omega) (Value.ownBlock (.slice (some ⟨g, 0, none⟩) n cap))
      refine ⟨_, _, ?_, hgr.1, hgr.2, .inr rfl⟩
      have holds : ∀ j u, xs[j]? = some u → w.cell? ((⟨g, 0, none⟩ : Addr).add j) = some u := hrow.cells (g := g) rfl
      have hl0 : xs.length = n * 1 := hrow.1
      have hfo := run_firstCells_some (P := P) w.drew 1 n ⟨g, 0, none⟩ n cap xs hl0 (by simpa using holds)
      have h48 : ¬ (281474976710656 < Builtin.nextslicecap (n + m) cap) := by
        have := growslice_fits (need := n + m) (old := cap) (bytes := 1) (by omega) (by omega)
        omega
      have n3 : ¬ ((9223372036854775807 : Int) < (n : Int) + m) := by omega
      have hm : m ≠ 0 := by omega
      simp [Builtin.append_, run_underlying ht, run_underlying hti, sizeOf, typeInfo, zeroValue, hi, hz, asInt, asIntOf, hby, hsize, wl, n1, n2, n3, hm, hroom, h48, Question.forced, hfo, newRow, grownCap, zc, askRoom]
end

end Go.Proofs.YtkkliejgmgmebaaGreatDoor

namespace Go.Proofs.YtkkliejgmgmebaaGreatDoor
open Go.RowKit

/-- how many operations are still to come -/
def todo (n : Nat) (listed : Array Bool) : Nat := ((List.range n).filter fun i => !listed.getD i true).length

theorem todo_lt {n i : Nat} {listed : Array Bool} (hi : i < n) (hl : listed.getD i true = false) : todo n (listed.setIfInBounds i true) < todo n listed := by
  have e : ((List.range n).filter fun j => !(listed.setIfInBounds i true).getD j true) = (((List.range n).filter fun j => !listed.getD j true).filter fun j => decide (j ≠ i)) := by
    rw [List.filter_filter]
    refine List.filter_congr fun j _ => ?_
    by_cases hj : j = i
    · subst hj
      rw [Array.getD_eq_getD_getElem?, Array.getElem?_setIfInBounds_self]
      split <;> simp
    · rw [getD_set_ne true (fun e => hj e.symm)]
      simp [hj]
  unfold todo
  rw [e]
  refine List.length_filter_lt_length_iff_exists.2 ⟨i, ?_, by simp⟩
  rw [List.mem_filter]
  exact ⟨List.mem_range.2 hi, by rw [hl]; rfl⟩

section
variable {P : Program} {md : Region.Mode} {ops : Array Oper} {Q : Exit → Act → World → Prop}

/-- WHAT EVERY OPERATION HANDS ON holds till the region is through. -/
theorem wpAny_inv (I : Array Bool → Act → World → Prop)
    (hstep : ∀ listed a w, I listed a w → (∀ fuel, todo ops.size listed ≤ fuel → wpAny P md ops Q fuel listed a w) ∨
      (Region.ready md ops listed ≠ [] ∧ ∀ i ∈ Region.ready md ops listed, wpOp P ops Q i (I (listed.setIfInBounds i true)) a w)) :
    ∀ (fuel : Nat) (listed : Array Bool) (a : Act) (w : World), todo ops.size listed ≤ fuel → I listed a w → wpAny P md ops Q fuel listed a w := by
  intro fuel
  induction fuel with
  | zero =>
    intro listed a w ht hI
    rcases hstep listed a w hI with h | ⟨hne, -⟩
    · exact h 0 ht
    · obtain ⟨i, hi⟩ := List.exists_mem_of_ne_nil _ hne
      obtain ⟨h0, o, ho, -⟩ := mem_ready.1 hi
      have := todo_lt (n := ops.size) (Array.getElem?_eq_some_iff.1 ho).1 h0
      omega
  | succ fuel ih =>
    intro listed a w ht hI
    rcases hstep listed a w hI with h | ⟨hne, hr⟩
    · exact h _ ht
    · refine ⟨fun h => absurd h hne, fun i hi => ?_⟩
      obtain ⟨h0, o, ho, -⟩ := mem_ready.1 hi
      have := todo_lt (n := ops.size) (Array.getElem?_eq_some_iff.1 ho).1 h0
      exact wpOp_mono (fun a w hI => ih _ a w (by omega) hI) (hr i hi)

/-- an operation that yields a value -/
theorem wpOp_value {i : Nat} {o : Oper} {K : Act → World → Prop} {a : Act} {w w' : World} {v : Value} (ho : ops[i]? = some o) (hg : o.guard = none)
    (hr : (execOp a.eval o).run P w = .ok (.value v) w') (h : K (a.put o.dst v) w') : wpOp P ops Q i K a w := by
  unfold wpOp
  rw [ho]
  simp only [Region.wanted, hg, if_true]
  refine .inl ?_
  unfold Oper.wp
  rw [hr]
  exact h
end

/-- a strand's own blocks: those that bear its label -/
def Lb (Pr : Nat → Prop) (g : Nat) (lab : Nat → Nat) (i : Nat) : Nat → Prop := fun k => Pr k ∨ k = g ∨ lab k ≠ i

/-- ONE STRAND of 'a, b, c = append(a, x), append(b, y), append(c, z)': has its slice been read (L), the element been laid (N), the append been made (A)? -/
structure Strand (Pr : Nat → Prop) (g : Nat) (lab : Nat → Nat) (w : World) (i : Nat) (e : TypeId) (c : Value) (v : Value) (n : Nat) (xs : List Value) (L N A : Bool) (sv sn sa : Value) : Prop where
  before : A = false → Row (Lb Pr g lab i) w e 1 v n xs
  loaded : L = true → sv = v
  temp : A = false → N = true → ∃ b, b < w.heap.size ∧ lab b = i + 3 ∧ sn = .slice (some ⟨b, 0, none⟩) 1 1 ∧ w.heap[b]? = some (.cells #[c] e (0, 0))
  after : A = true → Row (Lb Pr g lab i) w e 1 sa (n + 1) (xs ++ [c])

section
variable {Pr : Nat → Prop} {g : Nat} {lab lab' : Nat → Nat} {w w' : World} {i : Nat} {e : TypeId} {c v : Value} {n : Nat} {xs : List Value} {L N A : Bool} {sv sn sa : Value}

theorem Row.relab {v : Value} {n : Nat} (h : Row (Lb Pr g lab i) w e 1 v n xs) (hl : ∀ k, k < w.heap.size → lab' k = lab k) (hk : ∀ k, k < w.heap.size → lab k = i → w'.heap[k]? = w.heap[k]?) : Row (Lb Pr g lab' i) w' e 1 v n xs := by
  have hlab : ∀ k, v.ownBlock = some k → k < w.heap.size ∧ lab k = i := fun k hk => by
    obtain ⟨h1, h2, -⟩ := h.own hk
    refine ⟨h1, Classical.byContradiction fun hne => h2 (.inr (.inr hne))⟩
  refine (h.kept (w' := w') fun k hk' => hk k (hlab k hk').1 (hlab k hk').2).widen fun k hk' => ?_
  rintro (h1 | h1 | h1)
  · exact (h.own hk').2.1 (.inl h1)
  · exact (h.own hk').2.1 (.inr (.inl h1))
  · exact h1 ((hl k (hlab k hk').1).trans (hlab k hk').2)

/-- what another strand does leaves this one as it is -/
theorem Strand.stable (h : Strand Pr g lab w i e c v n xs L N A sv sn sa) (hs : w.heap.size ≤ w'.heap.size) (hl : ∀ k, k < w.heap.size → lab' k = lab k) (hk : ∀ k, k < w.heap.size → lab k = i ∨ lab k = i + 3 → w'.heap[k]? = w.heap[k]?) :
    Strand Pr g lab' w' i e c v n xs L N A sv sn sa := by
  refine ⟨fun hA => (h.before hA).relab hl fun k h1 h2 => hk k h1 (.inl h2), h.loaded, fun hA hN => ?_, fun hA => (h.after hA).relab hl fun k h1 h2 => hk k h1 (.inl h2)⟩
  obtain ⟨b, h1, h2, h3, h4⟩ := h.temp hA hN
  exact ⟨b, Nat.lt_of_lt_of_le h1 hs, (hl b h1).trans h2, h3, (hk b h1 (.inr h2)).trans h4⟩

/-- the slice is read -/
theorem Strand.load (h : Strand Pr g lab w i e c v n xs L N A sv sn sa) : Strand Pr g lab w i e c v n xs true N A v sn sa :=
  ⟨h.before, fun _ => rfl, h.temp, h.after⟩

/-- the label of a new block -/
def labNew (lab : Nat → Nat) (w : World) (j : Nat) : Nat → Nat := fun k => if k = w.heap.size then j else lab k
theorem labNew_old (lab : Nat → Nat) (w : World) (j : Nat) : ∀ k, k < w.heap.size → labNew lab w j k = lab k := fun k hk => by unfold labNew; rw [if_neg (by omega)]
theorem labNew_new (lab : Nat → Nat) (w : World) (j : Nat) : labNew lab w j w.heap.size = j := by unfold labNew; rw [if_pos rfl]

/-- the element is laid -/
theorem Strand.laid (h : Strand Pr g lab w i e c v n xs L N A sv sn sa) : Strand Pr g (labNew lab w (i + 3)) (w.alloc (.cells #[c] e)) i e c v n xs L true A sv (.slice (some ⟨w.heap.size, 0, none⟩) 1 1) sa := by
  have hl := labNew_old lab w (i + 3)
  have hk : ∀ k, k < w.heap.size → (w.alloc (.cells #[c] e)).heap[k]? = w.heap[k]? := fun k h => Below.heap_alloc _ _ _ h
  exact ⟨fun hA => (h.before hA).relab hl fun k h1 _ => hk k h1, h.loaded, fun _ _ => ⟨w.heap.size, by simp, labNew_new _ _ _, rfl, heap_alloc_new w _⟩, fun hA => (h.after hA).relab hl fun k h1 _ => hk k h1⟩

/-- the append -/
theorem Strand.append {P : Program} (h : Strand Pr g lab w i e c v n xs true true false sv sn sa) (hin : Inw Pr w) (hgw : g < w.heap.size) (t ty : TypeId) (inf : TypeInfo) (z : Value) (ht : P.underlying t = some (.slice e)) (hi : P.info? e = some inf) (hz : inf.zero = some z)
    (hsize : inf.size = 1) (hby : inf.bytes = 1) (hzs : z.cells.size = 1) (hc1 : c.oneCell' = true) (hb : n + 1 ≤ 140737488355328) :
    ∃ v' w', (Builtin.append_ #[t, t] ty #[sv, sn]).run P w = .ok v' w' ∧ Strand Pr g (labNew lab w i) w' i e c v n xs true true true sv sn v' ∧ w.heap.size ≤ w'.heap.size ∧
      (∀ k, k < w.heap.size → lab k ≠ i → w'.heap[k]? = w.heap[k]?) ∧ Keeps (fun k => Pr k ∨ k = g) w w' := by
  obtain rfl := h.loaded rfl
  obtain ⟨b, h1, h2, rfl, h4⟩ := h.temp rfl rfl
  have hrow := h.before rfl
  have hown : ∀ k, sv.ownBlock = some k → k < w.heap.size ∧ ¬ Pr k ∧ k ≠ g ∧ lab k = i := fun k hk => by
    obtain ⟨h1, h2, -⟩ := hrow.own hk
    exact ⟨h1, fun h => h2 (.inl h), fun h => h2 (.inr (.inl h)), Classical.byContradiction fun hne => h2 (.inr (.inr hne))⟩
  have hnew : ¬ Lb Pr g (labNew lab w i) i w.heap.size := by
    rintro (h | h | h)
    · exact Nat.lt_irrefl _ (hin _ h)
    · omega
    · exact h (labNew_new _ _ _)
  have hrow' : Row (Lb Pr g (labNew lab w i) i) w e 1 sv n xs := hrow.relab (labNew_old lab w i) fun _ _ _ => rfl
  have hcell : ∀ j u, [c][j]? = some u → w.cell? ((⟨b, 0, none⟩ : Addr).add j) = some u := by
    intro j u hj
    have hj0 : j = 0 := by
      rcases j with _ | j
      · rfl
      · simp at hj
    subst hj0
    simp only [List.getElem?_cons_zero, Option.some.injEq] at hj
    subst hj
    show w.cell? ⟨b, 0, none⟩ = some c
    rw [cell_of_row w b 0 #[c] e (0, 0) h4]
    rfl
  obtain ⟨v', w', hr, hR, hg, -⟩ := run_append_row (P := P) hnew t ty inf z 1 ht hi hz hsize hby hzs hrow' ⟨b, 0, none⟩ 1 1 [c] rfl hcell (by simpa using hc1) (by unfold maxLen; omega) (by omega)
  refine ⟨v', w', hr, ⟨fun h => by (cases h), fun _ => rfl, fun h => by (cases h), fun _ => hR⟩, hg.size, fun k hk hne => hg.block k hk (fun e => ?_), hg.os, hg.tape, hg.output, hg.size, fun k hk => hg.block k ?_ (fun e => ?_)⟩
  · exact hne (hown k e.symm).2.2.2
  · rcases hk with h | h
    · exact hin k h
    · omega
  · rcases hk with h | h
    · exact (hown k e.symm).2.1 h
    · exact (hown k e.symm).2.2.1 h
end

end Go.Proofs.YtkkliejgmgmebaaGreatDoor
