/-
  A file of the reference: how it lies in memory.
-/
import Derived.Test.YtkkliejgmgmebaaDoorB1
import Derived.Test.YtkkliejgmgmebaaDoorRows
import Derived.Handy
import Derived.Deep.QuietTactic
import Derived.BigQuiet
namespace Go.Proofs.YtkkliejgmgmebaaDoor
open Go.RowKit

theorem infoU8 : (Tryd.prog.info? 5).map (fun i => (i.zero, i.size, i.bytes)) = some (some (.int .u8 0), 1, 1) := by kernel_rfl
theorem infoBool : (Tryd.prog.info? 4).map (fun i => (i.zero, i.size, i.bytes)) = some (some (.bool false), 1, 1) := by kernel_rfl

abbrev u8s (bs : List UInt8) : List Value := bs.map fun x => .int .u8 (x.toNat : Int)
abbrev bls (bs : List Bool) : List Value := bs.map Value.bool

/-- a file: its bytes, which of them are known, which were written in an open transaction -/
structure Fl where
  d : List UInt8
  k : List Bool
  r : List Bool

/-- the three slices of a file -/
structure FileVal (Pr : Nat → Prop) (w : World) (vd vk vw : Value) (F : Fl) : Prop where
  rd : Row Pr w 5 1 vd F.d.length (u8s F.d)
  rk : Row Pr w 4 1 vk F.d.length (bls F.k)
  rw : Row Pr w 4 1 vw F.d.length (bls F.r)
  ne : ∀ k, vk.ownBlock = some k → vw.ownBlock ≠ some k

/-- a variable of type File -/
structure FileIs (Pr : Nat → Prop) (w : World) (g : Nat) (vd vk vw : Value) (F : Fl) : Prop where
  cell : w.heap[g]? = some (.cells #[vd, vk, vw] 27)
  ng : ¬ Pr g
  v : FileVal Pr w vd vk vw F

theorem FileVal.lk {Pr : Nat → Prop} {w : World} {vd vk vw : Value} {F : Fl} (h : FileVal Pr w vd vk vw F) : F.k.length = F.d.length := by
  have := h.rk.1; simpa using this
theorem FileVal.lr {Pr : Nat → Prop} {w : World} {vd vk vw : Value} {F : Fl} (h : FileVal Pr w vd vk vw F) : F.r.length = F.d.length := by
  have := h.rw.1; simpa using this

theorem open_frame (F : Array Value) : F = ((List.range F.size).map (fun i => F.getD i undef)).toArray := by
  apply Array.ext
  · simp
  · intro i h1 h2
    simp [Array.getD, h1]

/-- the first region of that number in a code -/
def regionOf (n : Nat) : Code → Option Code
  | .region id ops draw => if id = n then some (.region id ops draw) else none
  | .seq a b | .cond _ a b => match regionOf n a with
    | some c => some c
    | none => regionOf n b
  | .block _ c | .scope c | .loop c => regionOf n c
  | _ => none
/-- the first loop in a code -/
def firstLoop : Code → Option Code
  | .loop c => some c
  | .seq a b | .cond _ a b => match firstLoop a with
    | some c => some c
    | none => firstLoop b
  | .block _ c | .scope c => firstLoop c
  | _ => none
/-- what follows the first loop: the second one -/
def laterLoop : Code → Option Code
  | .seq a b => match firstLoop a with
    | some _ => match laterLoop a with
      | some c => some c
      | none => firstLoop b
    | none => laterLoop b
  | .block _ c | .scope c => laterLoop c
  | .cond _ a b => match firstLoop a with
    | some _ => firstLoop b
    | none => laterLoop b
  | _ => none

/-- a code that ends only in the usual way: nothing need be known of what follows an exit or a panic -/
def onlyNormal (R : Act → World → Prop) : Exit → Act → World → Prop
  | .normal, a, w => R a w
  | _, _, _ => False

theorem wp_blind {P : Program} {c : Code} {Q : Exit → Act → World → Prop} {a : Act} {w : World} (h : Code.wp P c (onlyNormal fun a w => Q .normal a w) a w) : Code.wp P c Q a w :=
  Code.wp_mono (fun e a w q => by cases e <;> first | exact q | exact q.elim) h

theorem cells_at {w : World} {g : Nat} {cs : Array Value} {t : TypeId} (h : w.heap[g]? = some (.cells cs t (0, 0))) : (∀ j, w.cell? ⟨g, j, none⟩ = cs[j]?) ∧ (∀ j, w.frozen? ⟨g, j, none⟩ = false) :=
  ⟨fun j => cell_of_row w g j cs t (0, 0) h, fun j => frozen_of_row w g j cs t h⟩

theorem size_set (w : World) (a : Addr) (v : Value) : (w.setCell a v).heap.size = w.heap.size := by simp [World.setCell]
theorem size_alloc' (w : World) (o : Obj) : (w.alloc o).heap.size = w.heap.size + 1 := by simp
theorem heap_set_same {w : World} {g : Nat} {cs : Array Value} {t : TypeId} (h : w.heap[g]? = some (.cells cs t (0, 0))) (j : Nat) (v : Value) : (w.setCell ⟨g, j, none⟩ v).heap[g]? = some (.cells (cs.setIfInBounds j v) t (0, 0)) :=
  heap_setCell_same w g j cs t v h
theorem heap_set_other (w : World) (a : Addr) (v : Value) {k : Nat} (h : k ≠ a.block) : (w.setCell a v).heap[k]? = w.heap[k]? := Below.heap_setCell w a v k h
theorem heap_alloc_lt (w : World) (o : Obj) {k : Nat} (h : k < w.heap.size) : (w.alloc o).heap[k]? = w.heap[k]? := Below.heap_alloc w o k h
theorem heap_alloc_at (w : World) (o : Obj) {k : Nat} (h : k = w.heap.size) : (w.alloc o).heap[k]? = some o := by subst h; exact heap_alloc_new w o

theorem Row.setOther {Pr : Nat → Prop} {w : World} {e : TypeId} {size : Nat} {v : Value} {n : Nat} {xs : List Value} (h : Row Pr w e size v n xs) {g : Nat} {cs : Array Value} {t : TypeId} {fr : Nat × Nat} (hg : w.heap[g]? = some (.cells cs t fr)) (he : e ≠ t) (j : Nat) (u : Value) :
    Row Pr (w.setCell ⟨g, j, none⟩ u) e size v n xs := h.setCell (a := ⟨g, j, none⟩) (h.neElem hg he) u

/-- the three cells of a variable of type File -/
theorem FileIs.cells {Pr : Nat → Prop} {w : World} {g : Nat} {vd vk vw : Value} {F : Fl} (h : FileIs Pr w g vd vk vw F) :
    w.cell? ⟨g, 0, none⟩ = some vd ∧ w.cell? ⟨g, 1, none⟩ = some vk ∧ w.cell? ⟨g, 2, none⟩ = some vw ∧ w.frozen? ⟨g, 0, none⟩ = false ∧ w.frozen? ⟨g, 1, none⟩ = false ∧ w.frozen? ⟨g, 2, none⟩ = false := by
  obtain ⟨h1, h2⟩ := cells_at h.cell
  exact ⟨h1 0, h1 1, h1 2, h2 0, h2 1, h2 2⟩

theorem FileVal.kept {Pr : Nat → Prop} {w w' : World} {vd vk vw : Value} {F : Fl} (h : FileVal Pr w vd vk vw F) (hk : ∀ k, k < w.heap.size → (vd.ownBlock = some k ∨ vk.ownBlock = some k ∨ vw.ownBlock = some k) → w'.heap[k]? = w.heap[k]?) : FileVal Pr w' vd vk vw F :=
  ⟨h.rd.kept fun k e => hk k (h.rd.own e).1 (.inl e), h.rk.kept fun k e => hk k (h.rk.own e).1 (.inr (.inl e)), h.rw.kept fun k e => hk k (h.rw.own e).1 (.inr (.inr e)), h.ne⟩

theorem FileVal.widen {Pr Pr' : Nat → Prop} {w : World} {vd vk vw : Value} {F : Fl} (h : FileVal Pr w vd vk vw F) (hp : ∀ k, k < w.heap.size → ¬ Pr k → ¬ Pr' k) : FileVal Pr' w vd vk vw F :=
  ⟨h.rd.widen fun k e => hp k (h.rd.own e).1 (h.rd.own e).2.1, h.rk.widen fun k e => hp k (h.rk.own e).1 (h.rk.own e).2.1, h.rw.widen fun k e => hp k (h.rw.own e).1 (h.rw.own e).2.1, h.ne⟩

theorem FileIs.widen {Pr Pr' : Nat → Prop} {w : World} {g : Nat} {vd vk vw : Value} {F : Fl} (h : FileIs Pr w g vd vk vw F) (hp : ∀ k, k < w.heap.size → ¬ Pr k → ¬ Pr' k) : FileIs Pr' w g vd vk vw F :=
  ⟨h.cell, hp g (lt_of_heap h.cell) h.ng, h.v.widen hp⟩

/-- what changes no block of the file's -/
theorem FileIs.kept {Pr Pr2 : Nat → Prop} {w w' : World} {g : Nat} {vd vk vw : Value} {F : Fl} (h : FileIs Pr w g vd vk vw F) (hk : Keeps Pr2 w w') (hp : ∀ k, k < w.heap.size → ¬ Pr k → Pr2 k) : FileIs Pr w' g vd vk vw F :=
  ⟨(hk.block g (hp g (lt_of_heap h.cell) h.ng)).trans h.cell, h.ng, h.v.kept fun k hlt hor => hk.block k (hp k hlt (by
    rcases hor with e | e | e
    · exact (h.v.rd.own e).2.1
    · exact (h.v.rk.own e).2.1
    · exact (h.v.rw.own e).2.1))⟩

theorem FileVal.set {Pr : Nat → Prop} {w : World} {vd vk vw : Value} {F : Fl} (h : FileVal Pr w vd vk vw F) {g : Nat} {cs : Array Value} {fr : Nat × Nat} (hg : w.heap[g]? = some (.cells cs 27 fr)) (j : Nat) (u : Value) : FileVal Pr (w.setCell ⟨g, j, none⟩ u) vd vk vw F :=
  ⟨h.rd.setOther hg (by decide) j u, h.rk.setOther hg (by decide) j u, h.rw.setOther hg (by decide) j u, h.ne⟩

theorem FileVal.alloc {Pr : Nat → Prop} {w : World} {vd vk vw : Value} {F : Fl} (h : FileVal Pr w vd vk vw F) (o : Obj) : FileVal Pr (w.alloc o) vd vk vw F :=
  ⟨h.rd.alloc o, h.rk.alloc o, h.rw.alloc o, h.ne⟩

/-- three slices are stored into a variable -/
theorem file_store3 {Pr : Nat → Prop} {w : World} {g : Nat} {v0 v1 v2 vd vk vw : Value} {F : Fl} (hc : w.heap[g]? = some (.cells #[v0, v1, v2] 27 (0, 0))) (ng : ¬ Pr g) (h : FileVal Pr w vd vk vw F) :
    FileIs Pr (((w.setCell ⟨g, 0, none⟩ vd).setCell ⟨g, 1, none⟩ vk).setCell ⟨g, 2, none⟩ vw) g vd vk vw F ∧ Keeps Pr w (((w.setCell ⟨g, 0, none⟩ vd).setCell ⟨g, 1, none⟩ vk).setCell ⟨g, 2, none⟩ vw) := by
  have h1 := heap_set_same hc 0 vd
  have h2 := heap_set_same h1 1 vk
  have h3 := heap_set_same h2 2 vw
  exact ⟨⟨h3, ng, ((h.set hc _ _).set h1 _ _).set h2 _ _⟩, ((Keeps.setCell (a := ⟨g, 0, none⟩) ng _).trans (Keeps.setCell (a := ⟨g, 1, none⟩) ng _)).trans (Keeps.setCell (a := ⟨g, 2, none⟩) ng _)⟩

theorem FileVal.drew {Pr : Nat → Prop} {w : World} {vd vk vw : Value} {F : Fl} (h : FileVal Pr w vd vk vw F) : FileVal Pr w.drew vd vk vw F := ⟨h.rd, h.rk, h.rw, h.ne⟩
theorem FileIs.drew {Pr : Nat → Prop} {w : World} {g : Nat} {vd vk vw : Value} {F : Fl} (h : FileIs Pr w g vd vk vw F) : FileIs Pr w.drew g vd vk vw F := ⟨h.cell, h.ng, h.v.drew⟩

end Go.Proofs.YtkkliejgmgmebaaDoor
