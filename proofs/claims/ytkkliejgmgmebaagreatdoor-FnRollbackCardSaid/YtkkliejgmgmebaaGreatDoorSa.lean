/-
  A file of the reference: how it lies in memory.
-/
import Derived.Test.YtkkliejgmgmebaaGreatDoorBa
import Derived.Test.YtkkliejgmgmebaaGreatDoorRows
import Derived.Handy
import Derived.Deep.QuietTactic
import Derived.BigQuiet
namespace Go.Proofs.YtkkliejgmgmebaaGreatDoor
open Go.RowKit

theorem infoU8 : (Tryz.prog.info? 5).map (fun i => (i.zero, i.size, i.bytes)) = some (some (.int .u8 0), 1, 1) := by kernel_rfl
theorem infoBool : (Tryz.prog.info? 4).map (fun i => (i.zero, i.size, i.bytes)) = some (some (.bool false), 1, 1) := by kernel_rfl

abbrev u8s (bs : List UInt8) : List Value := bs.map fun x => .int .u8 (x.toNat : Int)
abbrev bls (bs : List Bool) : List Value := bs.map Value.bool

/-- a file: its bytes, which of them are known, which were written in an open transaction -/
structure Fl where
  d : List UInt8
  k : List Bool
  r : List Bool

/-- the three slices of a file -/
structure FileVal (Pr : Nat → Prop) (w : World) (vd vk vw : Value) (F : Fl) : Prop where
  rd : Row Pr w 5 1 vd F.d.length (u8s F.d)
  rk : Row Pr w 4 1 vk F.d.length (bls F.k)
  rw : Row Pr w 4 1 vw F.d.length (bls F.r)
  ne : ∀ k, vk.ownBlock = some k → vw.ownBlock ≠ some k

/-- where a File lies: a block, the cells ahead of it and behind it -/
structure FP where
  b : Nat
  o : Nat
  pre : List Value
  post : List Value

/-- the block with these three cells in it -/
def FP.cs (g : FP) (x y z : Value) : Array Value := (g.pre ++ x :: y :: z :: g.post).toArray

theorem FP.get0 (g : FP) (h : g.pre.length = g.o) (x y z : Value) : (g.cs x y z)[g.o]? = some x := by
  simp [FP.cs, ← h]
theorem FP.get1 (g : FP) (h : g.pre.length = g.o) (x y z : Value) : (g.cs x y z)[g.o + 1]? = some y := by
  simp [FP.cs, ← h]
theorem FP.get2 (g : FP) (h : g.pre.length = g.o) (x y z : Value) : (g.cs x y z)[g.o + 2]? = some z := by
  simp [FP.cs, ← h]
theorem FP.set0 (g : FP) (h : g.pre.length = g.o) (x y z v : Value) : (g.cs x y z).setIfInBounds g.o v = g.cs v y z := by
  simp [FP.cs, ← h]
theorem FP.set1 (g : FP) (h : g.pre.length = g.o) (x y z v : Value) : (g.cs x y z).setIfInBounds (g.o + 1) v = g.cs x v z := by
  simp [FP.cs, ← h]
theorem FP.set2 (g : FP) (h : g.pre.length = g.o) (x y z v : Value) : (g.cs x y z).setIfInBounds (g.o + 2) v = g.cs x y v := by
  simp [FP.cs, ← h]

/-- a block by itself -/
abbrev FP.one (b : Nat) : FP := ⟨b, 0, [], []⟩

/-- a variable of type File -/
structure FileIs (Pr : Nat → Prop) (w : World) (g : FP) (vd vk vw : Value) (F : Fl) : Prop where
  cell : w.heap[g.b]? = some (.cells (g.cs vd vk vw) 34)
  lo : g.pre.length = g.o
  ng : ¬ Pr g.b
  v : FileVal Pr w vd vk vw F

theorem FileVal.lk {Pr : Nat → Prop} {w : World} {vd vk vw : Value} {F : Fl} (h : FileVal Pr w vd vk vw F) : F.k.length = F.d.length := by
  have := h.rk.1; simpa using this
theorem FileVal.lr {Pr : Nat → Prop} {w : World} {vd vk vw : Value} {F : Fl} (h : FileVal Pr w vd vk vw F) : F.r.length = F.d.length := by
  have := h.rw.1; simpa using this

theorem open_frame (F : Array Value) : F = ((List.range F.size).map (fun i => F.getD i undef)).toArray := by
  apply Array.ext
  · simp
  · intro i h1 h2
    simp [Array.getD, h1]

/-- the first region of that number in a code -/
def regionOf (n : Nat) : Code → Option Code
  | .region id ops draw => if id = n then some (.region id ops draw) else none
  | .seq a b | .cond _ a b => match regionOf n a with
    | some c => some c
    | none => regionOf n b
  | .block _ c | .scope c | .loop c => regionOf n c
  | _ => none
/-- the first loop in a code -/
def firstLoop : Code → Option Code
  | .loop c => some c
  | .seq a b | .cond _ a b => match firstLoop a with
    | some c => some c
    | none => firstLoop b
  | .block _ c | .scope c => firstLoop c
  | _ => none
/-- what follows the first loop: the second one -/
def laterLoop : Code → Option Code
  | .seq a b => match firstLoop a with
    | some _ => match laterLoop a with
      | some c => some c
      | none => firstLoop b
    | none => laterLoop b
  | .block _ c | .scope c => laterLoop c
  | .cond _ a b => match firstLoop a with
    | some _ => firstLoop b
    | none => laterLoop b
  | _ => none

/-- a code that ends only in the usual way: nothing need be known of what follows an exit or a panic -/
def onlyNormal (R : Act → World → Prop) : Exit → Act → World → Prop
  | .normal, a, w => R a w
  | _, _, _ => False

theorem wp_blind {P : Program} {c : Code} {Q : Exit → Act → World → Prop} {a : Act} {w : World} (h : Code.wp P c (onlyNormal fun a w => Q .normal a w) a w) : Code.wp P c Q a w :=
  Code.wp_mono (fun e a w q => by cases e <;> first | exact q | exact q.elim) h

theorem cells_at {w : World} {g : Nat} {cs : Array Value} {t : TypeId} (h : w.heap[g]? = some (.cells cs t (0, 0))) : (∀ j, w.cell? ⟨g, j, none⟩ = cs[j]?) ∧ (∀ j, w.frozen? ⟨g, j, none⟩ = false) :=
  ⟨fun j => cell_of_row w g j cs t (0, 0) h, fun j => frozen_of_row w g j cs t h⟩

theorem size_set (w : World) (a : Addr) (v : Value) : (w.setCell a v).heap.size = w.heap.size := by simp [World.setCell]
theorem size_alloc' (w : World) (o : Obj) : (w.alloc o).heap.size = w.heap.size + 1 := by simp
theorem heap_set_same {w : World} {g : Nat} {cs : Array Value} {t : TypeId} (h : w.heap[g]? = some (.cells cs t (0, 0))) (j : Nat) (v : Value) : (w.setCell ⟨g, j, none⟩ v).heap[g]? = some (.cells (cs.setIfInBounds j v) t (0, 0)) :=
  heap_setCell_same w g j cs t v h
theorem heap_set_other (w : World) (a : Addr) (v : Value) {k : Nat} (h : k ≠ a.block) : (w.setCell a v).heap[k]? = w.heap[k]? := Below.heap_setCell w a v k h
theorem heap_alloc_lt (w : World) (o : Obj) {k : Nat} (h : k < w.heap.size) : (w.alloc o).heap[k]? = w.heap[k]? := Below.heap_alloc w o k h
theorem heap_alloc_at (w : World) (o : Obj) {k : Nat} (h : k = w.heap.size) : (w.alloc o).heap[k]? = some o := by subst h; exact heap_alloc_new w o

theorem Row.setOther {Pr : Nat → Prop} {w : World} {e : TypeId} {size : Nat} {v : Value} {n : Nat} {xs : List Value} (h : Row Pr w e size v n xs) {g : Nat} {cs : Array Value} {t : TypeId} {fr : Nat × Nat} (hg : w.heap[g]? = some (.cells cs t fr)) (he : e ≠ t) (j : Nat) (u : Value) :
    Row Pr (w.setCell ⟨g, j, none⟩ u) e size v n xs := h.setCell (a := ⟨g, j, none⟩) (h.neElem hg he) u

/-- the three cells of a variable of type File -/
theorem FileIs.cells {Pr : Nat → Prop} {w : World} {g : FP} {vd vk vw : Value} {F : Fl} (h : FileIs Pr w g vd vk vw F) :
    w.cell? ⟨g.b, g.o, none⟩ = some vd ∧ w.cell? ⟨g.b, g.o + 1, none⟩ = some vk ∧ w.cell? ⟨g.b, g.o + 2, none⟩ = some vw ∧ w.frozen? ⟨g.b, g.o, none⟩ = false ∧ w.frozen? ⟨g.b, g.o + 1, none⟩ = false ∧ w.frozen? ⟨g.b, g.o + 2, none⟩ = false := by
  obtain ⟨h1, h2⟩ := cells_at h.cell
  exact ⟨(h1 _).trans (g.get0 h.lo ..), (h1 _).trans (g.get1 h.lo ..), (h1 _).trans (g.get2 h.lo ..), h2 _, h2 _, h2 _⟩

theorem FileVal.kept {Pr : Nat → Prop} {w w' : World} {vd vk vw : Value} {F : Fl} (h : FileVal Pr w vd vk vw F) (hk : ∀ k, k < w.heap.size → (vd.ownBlock = some k ∨ vk.ownBlock = some k ∨ vw.ownBlock = some k) → w'.heap[k]? = w.heap[k]?) : FileVal Pr w' vd vk vw F :=
  ⟨h.rd.kept fun k e => hk k (h.rd.own e).1 (.inl e), h.rk.kept fun k e => hk k (h.rk.own e).1 (.inr (.inl e)), h.rw.kept fun k e => hk k (h.rw.own e).1 (.inr (.inr e)), h.ne⟩

theorem FileVal.widen {Pr Pr' : Nat → Prop} {w : World} {vd vk vw : Value} {F : Fl} (h : FileVal Pr w vd vk vw F) (hp : ∀ k, k < w.heap.size → ¬ Pr k → ¬ Pr' k) : FileVal Pr' w vd vk vw F :=
  ⟨h.rd.widen fun k e => hp k (h.rd.own e).1 (h.rd.own e).2.1, h.rk.widen fun k e => hp k (h.rk.own e).1 (h.rk.own e).2.1, h.rw.widen fun k e => hp k (h.rw.own e).1 (h.rw.own e).2.1, h.ne⟩

theorem FileIs.widen {Pr Pr' : Nat → Prop} {w : World} {g : FP} {vd vk vw : Value} {F : Fl} (h : FileIs Pr w g vd vk vw F) (hp : ∀ k, k < w.heap.size → ¬ Pr k → ¬ Pr' k) : FileIs Pr' w g vd vk vw F :=
  ⟨h.cell, h.lo, hp g.b (lt_of_heap h.cell) h.ng, h.v.widen hp⟩

/-- what changes no block of the file's -/
theorem FileIs.kept {Pr Pr2 : Nat → Prop} {w w' : World} {g : FP} {vd vk vw : Value} {F : Fl} (h : FileIs Pr w g vd vk vw F) (hk : Keeps Pr2 w w') (hp : ∀ k, k < w.heap.size → ¬ Pr k → Pr2 k) : FileIs Pr w' g vd vk vw F :=
  ⟨(hk.block g.b (hp g.b (lt_of_heap h.cell) h.ng)).trans h.cell, h.lo, h.ng, h.v.kept fun k hlt hor => hk.block k (hp k hlt (by
    rcases hor with e | e | e
    · exact (h.v.rd.own e).2.1
    · exact (h.v.rk.own e).2.1
    · exact (h.v.rw.own e).2.1))⟩

theorem FileVal.set {Pr : Nat → Prop} {w : World} {vd vk vw : Value} {F : Fl} (h : FileVal Pr w vd vk vw F) {g : Nat} {cs : Array Value} {fr : Nat × Nat} (hg : w.heap[g]? = some (.cells cs 34 fr)) (j : Nat) (u : Value) : FileVal Pr (w.setCell ⟨g, j, none⟩ u) vd vk vw F :=
  ⟨h.rd.setOther hg (by decide) j u, h.rk.setOther hg (by decide) j u, h.rw.setOther hg (by decide) j u, h.ne⟩

theorem FileVal.alloc {Pr : Nat → Prop} {w : World} {vd vk vw : Value} {F : Fl} (h : FileVal Pr w vd vk vw F) (o : Obj) : FileVal Pr (w.alloc o) vd vk vw F :=
  ⟨h.rd.alloc o, h.rk.alloc o, h.rw.alloc o, h.ne⟩

/-- three slices are stored into a variable -/
theorem file_store3 {Pr : Nat → Prop} {w : World} {g : FP} {v0 v1 v2 vd vk vw : Value} {F : Fl} (hc : w.heap[g.b]? = some (.cells (g.cs v0 v1 v2) 34 (0, 0))) (lo : g.pre.length = g.o) (ng : ¬ Pr g.b) (h : FileVal Pr w vd vk vw F) :
    FileIs Pr (((w.setCell ⟨g.b, g.o, none⟩ vd).setCell ⟨g.b, g.o + 1, none⟩ vk).setCell ⟨g.b, g.o + 2, none⟩ vw) g vd vk vw F ∧ Keeps Pr w (((w.setCell ⟨g.b, g.o, none⟩ vd).setCell ⟨g.b, g.o + 1, none⟩ vk).setCell ⟨g.b, g.o + 2, none⟩ vw) := by
  have h1 := heap_set_same hc g.o vd
  rw [g.set0 lo] at h1
  have h2 := heap_set_same h1 (g.o + 1) vk
  rw [g.set1 lo] at h2
  have h3 := heap_set_same h2 (g.o + 2) vw
  rw [g.set2 lo] at h3
  exact ⟨⟨h3, lo, ng, ((h.set hc _ _).set h1 _ _).set h2 _ _⟩, ((Keeps.setCell (a := ⟨g.b, g.o, none⟩) ng _).trans (Keeps.setCell (a := ⟨g.b, g.o + 1, none⟩) ng _)).trans (Keeps.setCell (a := ⟨g.b, g.o + 2, none⟩) ng _)⟩

theorem FileVal.drew {Pr : Nat → Prop} {w : World} {vd vk vw : Value} {F : Fl} (h : FileVal Pr w vd vk vw F) : FileVal Pr w.drew vd vk vw F := ⟨h.rd, h.rk, h.rw, h.ne⟩
theorem FileIs.drew {Pr : Nat → Prop} {w : World} {g : FP} {vd vk vw : Value} {F : Fl} (h : FileIs Pr w g vd vk vw F) : FileIs Pr w.drew g vd vk vw F := ⟨h.cell, h.lo, h.ng, h.v.drew⟩

end Go.Proofs.YtkkliejgmgmebaaGreatDoor

namespace Go.Proofs.YtkkliejgmgmebaaGreatDoor
open Go.RowKit

theorem make_run {P : Program} (w : World) (t e : TypeId) (i : TypeInfo) (z : Value) (ht : P.underlying t = some (.slice e)) (hi : P.info? e = some i) (hz : i.zero = some z) (hs : i.size = 1) (hb : i.bytes = 1) (n : Nat) (hn : n ≤ 140737488355328) :
    (Instr.makeSlice t (.int .i64 (n : Int)) (.int .i64 (n : Int))).run P w = .ok (.slice (some ⟨w.heap.size, 0, none⟩) n n) (w.alloc (.cells (madeCells z.cells n) e)) := by
  have := run_make (P := P) w t e i z ht hi hz .i64 .i64 n n (by omega) (Int.le_refl _) (by rw [hb]; omega) (by omega)
  simp only [Int.toNat_natCast, hs, Nat.mul_one] at this
  exact this

theorem Row.make (Pr : Nat → Prop) (w : World) (hi : Inw Pr w) (e : TypeId) (z : Value) (n : Nat) (hn : n ≤ 140737488355328) {B : Nat} (hB : B = w.heap.size) :
    Row Pr (w.alloc (.cells (madeCells #[z] n) e)) e 1 (.slice (some ⟨B, 0, none⟩) n n) n (List.replicate n z) := by
  subst hB
  exact Row.new Pr w hi.new _ n n (Nat.le_refl _) (by unfold maxLen; omega) (by simp [madeCells]) (by rw [toList_madeCells_one, Nat.mul_one, List.take_replicate, Nat.min_self])

set_option maxRecDepth 100000 in
set_option maxHeartbeats 1000000 in
theorem kept_any (Pr : Nat → Prop) (g : FP) (vd vk vw : Value) (F : Fl) (w : World) (hin : Inw Pr w) (h : FileIs Pr w g vd vk vw F) (hl : F.d.length ≤ 8589934592) :
    Calls Tryz.prog 24 #[.pointer (some ⟨g.b, g.o, none⟩)] w fun e w' => e = .returned (.tuple #[]) ∧ ∃ vw', FileIs Pr w' g vd vk vw' ⟨F.d, F.k, List.replicate F.d.length false⟩ ∧ Keeps Pr w w' := by
  obtain ⟨i0, hi, hz0, hz1, hz2⟩ := info_parts infoBool
  obtain ⟨c0, c1, c2, f0, f1, f2⟩ := h.cells
  obtain ⟨a, c, rfl, -⟩ := h.v.rd.slice
  have hmk := fun W => make_run (P := Tryz.prog) W 32 4 i0 (.bool false) Tryz.underlying32 hi hz0 hz1 hz2 F.d.length (by omega)
  have H := Lib.hid h
  have HI := Lib.hid hin
  have hg := lt_of_heap h.cell
  clear h hin
  go_enter Tryz.func24, Tryz.ntmps24
  go_wp2
  go_end0
  have h := H.out
  have hin := HI.out
  have hi2 : Inw Pr (w.setCell ⟨g.b, g.o + 2, none⟩ (.slice (some ⟨w.heap.size, 0, none⟩) F.d.length F.d.length)) := hin.mono (by rw [size_set]; exact Nat.le_refl _)
  refine ⟨rfl, .slice (some ⟨w.heap.size, 0, none⟩) F.d.length F.d.length, ⟨?_, h.lo, h.ng, ⟨?_, ?_, ?_, ?_⟩⟩, (Keeps.setCell (a := ⟨g.b, g.o + 2, none⟩) h.ng _).trans (Keeps.alloc hi2 _)⟩
  · rw [heap_alloc_lt _ _ (by rw [size_set]; exact hg), heap_set_same h.cell, g.set2 h.lo]
  · exact (h.v.rd.setOther h.cell (by decide) _ _).alloc _
  · exact (h.v.rk.setOther h.cell (by decide) _ _).alloc _
  · have := Row.make Pr _ hi2 4 (.bool false) F.d.length (by omega) (B := w.heap.size) (by rw [size_set])
    simpa using this
  · intro k hk e
    have := (h.v.rk.own hk).1
    simp only [Value.ownBlock, Option.some.injEq] at e
    omega

end Go.Proofs.YtkkliejgmgmebaaGreatDoor
