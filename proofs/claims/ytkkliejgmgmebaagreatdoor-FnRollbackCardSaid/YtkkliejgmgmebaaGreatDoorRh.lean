/-
  The numbers under which this dump holds the locks' functions and types, and that it holds them.
-/
import Derived.Test.YtkkliejgmgmebaaGreatDoorProg
import Derived.Conc.RwLoneW
import Derived.KernelRfl
import Derived.Test.YtkkliejgmgmebaaGreatDoorRg
namespace Go.Proofs.YtkkliejgmgmebaaGreatDoor
abbrev muLink : Go.Conc.Locks.MuLink := { lock := 84, unlock := 93, ilock := 102, iunlock := 104, lockSlow := 106, unlockSlow := 107, disable := 83, enable := 87, acquire := 88, relMerge := 90, cas32 := 105, add32 := 103, tMutex := 99, tIMutex := 97, tPMutex := 145, tPIMutex := 164, tPI32 := 163, tUP := 144, tNoCopy := 94, tU32 := 95 }
theorem muLib : Go.Conc.Locks.MuLib Tryz.prog muLink :=
  ⟨Tryz.func84, Tryz.func93, Tryz.func102, Tryz.func104, Tryz.func83, Tryz.func87, Tryz.func88, Tryz.func90, Tryz.func105, Tryz.func103, Tryz.underlying97, Tryz.runUnderlying97, Tryz.sizeOf97, Tryz.isAgg97, Tryz.zeroValue97, Tryz.underlying99, Tryz.runUnderlying99, Tryz.sizeOf99, Tryz.isAgg99, Tryz.zeroValue99, Tryz.underlying145, Tryz.runUnderlying145, Tryz.sizeOf145, Tryz.isAgg145, Tryz.zeroValue145, Tryz.underlying164, Tryz.runUnderlying164, Tryz.sizeOf164, Tryz.isAgg164, Tryz.zeroValue164, Tryz.underlying163, Tryz.runUnderlying163, Tryz.sizeOf163, Tryz.isAgg163, Tryz.zeroValue163, Tryz.underlying144, Tryz.runUnderlying144, Tryz.sizeOf144, Tryz.isAgg144, Tryz.zeroValue144, Tryz.underlying94, Tryz.runUnderlying94, Tryz.sizeOf94, Tryz.isAgg94, Tryz.zeroValue94, Tryz.underlying21, Tryz.runUnderlying21, Tryz.sizeOf21, Tryz.isAgg21, Tryz.zeroValue21, (by kernel_rfl)⟩
abbrev rwLink : Go.Conc.Locks.RwLink := { lock := 84, unlock := 93, ilock := 102, iunlock := 104, lockSlow := 106, unlockSlow := 107, disable := 83, enable := 87, acquire := 88, relMerge := 90, cas32 := 105, add32 := 103, tMutex := 99, tIMutex := 97, tPMutex := 145, tPIMutex := 164, tPI32 := 163, tUP := 144, tNoCopy := 94, tU32 := 95, rlock := 75, runlock := 76, wlock := 67, wunlock := 68, i32add := 85, raceRead := 82, release := 89, rUnlockSlow := 97, semacqR := 96, semacqW := 86, semrel := 92, sfatal := 91, tRW := 104, tPRW := 142, tAI32 := 102, tPAI32 := 161, tPU32 := 148, tANoCopy := 100 }
theorem rwCore : Go.Conc.Locks.RwCore Tryz.prog rwLink :=
  ⟨Tryz.func85, Tryz.func82, Tryz.func83, Tryz.func87, Tryz.func88, Tryz.func90, Tryz.func103, Tryz.underlying104, Tryz.runUnderlying104, Tryz.sizeOf104, Tryz.isAgg104, Tryz.zeroValue104, Tryz.underlying102, Tryz.runUnderlying102, Tryz.sizeOf102, Tryz.isAgg102, Tryz.zeroValue102, Tryz.underlying142, Tryz.runUnderlying142, Tryz.sizeOf142, Tryz.isAgg142, Tryz.zeroValue142, Tryz.underlying161, Tryz.runUnderlying161, Tryz.sizeOf161, Tryz.isAgg161, Tryz.zeroValue161, Tryz.underlying148, Tryz.runUnderlying148, Tryz.sizeOf148, Tryz.isAgg148, Tryz.zeroValue148, Tryz.underlying100, Tryz.runUnderlying100, Tryz.sizeOf100, Tryz.isAgg100, Tryz.zeroValue100, Tryz.underlying95, Tryz.runUnderlying95, Tryz.sizeOf95, Tryz.isAgg95, Tryz.zeroValue95, Tryz.underlying99, Tryz.runUnderlying99, Tryz.sizeOf99, Tryz.isAgg99, Tryz.zeroValue99, Tryz.underlying145, Tryz.runUnderlying145, Tryz.sizeOf145, Tryz.isAgg145, Tryz.zeroValue145, Tryz.underlying163, Tryz.runUnderlying163, Tryz.sizeOf163, Tryz.isAgg163, Tryz.zeroValue163, Tryz.underlying144, Tryz.runUnderlying144, Tryz.sizeOf144, Tryz.isAgg144, Tryz.zeroValue144, Tryz.underlying21, Tryz.runUnderlying21, Tryz.sizeOf21, Tryz.isAgg21, Tryz.zeroValue21, (by kernel_rfl), (by kernel_rfl)⟩
theorem rwRLib : Go.Conc.Locks.RwRLib Tryz.prog rwLink := ⟨rwCore, Tryz.func75, Tryz.func76⟩
theorem rwWLib : Go.Conc.Locks.RwWLib Tryz.prog rwLink := ⟨rwCore, muLib, Tryz.func67, Tryz.func68, Tryz.func89, Tryz.underlying3, Tryz.runUnderlying3, Tryz.sizeOf3, Tryz.isAgg3, Tryz.zeroValue3⟩
end Go.Proofs.YtkkliejgmgmebaaGreatDoor

namespace Go.Proofs.YtkkliejgmgmebaaGreatDoor
open Go.RowKit Go.RwLone Go.MuLone

/-- the closure that truncates the file; gc: the variable that it captured -/
abbrev ckV (gc : Nat) : Value := .func (.func 29) #[] #[.pointer (some ⟨gc, 0, none⟩)]

/-- the cells of a RollbackFiler: its two locks (m, r | r2), and the rest -/
def rollC (m r r2 : Int) (gm gc t : Nat) (bp : Option Addr) : Array Value :=
  #[.int .i32 m, .int .u32 0, .int .u32 0, .int .u32 0, .int .i32 r, .int .i32 0, .int .i32 0, .int .u32 0, .int .u32 0, .int .u32 0, .int .i32 r2, .int .i32 0,
    .pointer bp, ckV gc, .iface 68 (.pointer (some ⟨gm, 0, none⟩)), .iface 68 (.pointer (some ⟨gm, 0, none⟩)), .nilFunc, .int .i64 (t : Int), .bool false, .bool false]

/-- a RollbackFiler in block gr -/
abbrev RollAt (w : World) (gr : Nat) (m r r2 : Int) (gm gc t : Nat) (bp : Option Addr) : Prop := w.heap[gr]? = some (.cells (rollC m r r2 gm gc t bp) 107 (0, 0))

section
variable {w : World} {gr : Nat} {m r r2 : Int} {gm gc t : Nat} {bp : Option Addr}

theorem RollAt.cells (h : RollAt w gr m r r2 gm gc t bp) : w.cell? ⟨gr, 12, none⟩ = some (.pointer bp) ∧ w.cell? ⟨gr, 13, none⟩ = some (ckV gc) ∧ w.cell? ⟨gr, 14, none⟩ = some (.iface 68 (.pointer (some ⟨gm, 0, none⟩))) ∧ w.cell? ⟨gr, 15, none⟩ = some (.iface 68 (.pointer (some ⟨gm, 0, none⟩))) ∧
    w.cell? ⟨gr, 16, none⟩ = some .nilFunc ∧ w.cell? ⟨gr, 17, none⟩ = some (.int .i64 (t : Int)) ∧ w.cell? ⟨gr, 19, none⟩ = some (.bool false) ∧ w.frozen? ⟨gr, 12, none⟩ = false ∧ w.frozen? ⟨gr, 17, none⟩ = false := by
  obtain ⟨h0, h1⟩ := cells_at h
  exact ⟨h0 12, h0 13, h0 14, h0 15, h0 16, h0 17, h0 19, h1 12, h1 17⟩

theorem RollAt.lock1 (h : RollAt w gr m r r2 gm gc t bp) (m' r' : Int) : RollAt ((w.setCell ⟨gr, 0, none⟩ (.int .i32 m')).setCell ⟨gr, 4, none⟩ (.int .i32 r')) gr m' r' r2 gm gc t bp :=
  heap_set_same (heap_set_same h 0 _) 4 _
theorem RollAt.lock2 (h : RollAt w gr m r r2 gm gc t bp) (m' r' : Int) : RollAt ((w.setCell ⟨gr, 4, none⟩ (.int .i32 r')).setCell ⟨gr, 0, none⟩ (.int .i32 m')) gr m' r' r2 gm gc t bp :=
  heap_set_same (heap_set_same h 4 _) 0 _

theorem keeps_two {w : World} {gr i j : Nat} (a b : Value) : Keeps (fun k => k ≠ gr) w ((w.setCell ⟨gr, i, none⟩ a).setCell ⟨gr, j, none⟩ b) :=
  (Keeps.setCell (a := ⟨gr, i, none⟩) (fun h => h rfl) _).trans (Keeps.setCell (a := ⟨gr, j, none⟩) (fun h => h rfl) _)

theorem w01 : wrap32 (0 + 1) = 1 := by unfold wrap32; omega
theorem w10 : wrap32 (1 + -1) = 0 := by unfold wrap32; omega

theorem wl_any (h : RollAt w gr 0 0 r2 gm gc t bp) : Calls Tryz.prog 67 #[.pointer (some ⟨gr, 0, none⟩)] w fun e w' => e = .returned (.tuple #[]) ∧ RollAt w' gr 1 (-1073741824) r2 gm gc t bp ∧ Keeps (fun k => k ≠ gr) w w' := by
  obtain ⟨h0, h1⟩ := cells_at h
  refine (wlock_free rwWLib gr 0 (.int .u32 0) (.int .u32 0) w (h0 0) (h0 2) (h0 3) (h0 4) (h1 0) (h1 4)).mono ?_
  rintro e w' ⟨rfl, rfl⟩
  exact ⟨rfl, h.lock1 1 (-1073741824), keeps_two _ _⟩

theorem wu_any (u : FrameMode) (h : RollAt w gr 1 (-1073741824) r2 gm gc t bp) : CallsD Tryz.prog 68 #[.pointer (some ⟨gr, 0, none⟩)] u w fun e u' w' => u' = u ∧ e = .returned (.tuple #[]) ∧ RollAt w' gr 0 0 r2 gm gc t bp ∧ Keeps (fun k => k ≠ gr) w w' := by
  obtain ⟨h0, h1⟩ := cells_at h
  refine (wunlock_deferred rwWLib gr 0 (.int .u32 0) (.int .u32 0) u w (h0 0) (h0 2) (h0 3) (h0 4) (h1 0) (h1 4)).mono ?_
  rintro e u' w' ⟨rfl, rfl, rfl⟩
  exact ⟨rfl, rfl, h.lock2 0 0, keeps_two _ _⟩

theorem rl_any (h : RollAt w gr m 0 r2 gm gc t bp) : Calls Tryz.prog 75 #[.pointer (some ⟨gr, 0, none⟩)] w fun e w' => e = .returned (.tuple #[]) ∧ RollAt w' gr m 1 r2 gm gc t bp ∧ Keeps (fun k => k ≠ gr) w w' := by
  obtain ⟨h0, h1⟩ := cells_at h
  refine (rlock_open rwRLib gr 0 0 (.int .i32 m) (.int .u32 0) w (h0 0) (h0 3) (h0 4) (h1 4) (by rw [w01]; decide)).mono ?_
  rintro e w' ⟨rfl, rfl⟩
  rw [w01]
  exact ⟨rfl, heap_set_same h 4 (.int .i32 1), Keeps.setCell (a := ⟨gr, 4, none⟩) (fun h => h rfl) _⟩
theorem rl2_any (h : RollAt w gr m r 0 gm gc t bp) : Calls Tryz.prog 75 #[.pointer (some ⟨gr, 6, none⟩)] w fun e w' => e = .returned (.tuple #[]) ∧ RollAt w' gr m r 1 gm gc t bp ∧ Keeps (fun k => k ≠ gr) w w' := by
  obtain ⟨h0, h1⟩ := cells_at h
  refine (rlock_open rwRLib gr 6 0 (.int .i32 0) (.int .u32 0) w (h0 6) (h0 9) (h0 10) (h1 10) (by rw [w01]; decide)).mono ?_
  rintro e w' ⟨rfl, rfl⟩
  rw [w01]
  exact ⟨rfl, heap_set_same h 10 (.int .i32 1), Keeps.setCell (a := ⟨gr, 10, none⟩) (fun h => h rfl) _⟩
theorem ru_any (u : FrameMode) (h : RollAt w gr m 1 r2 gm gc t bp) : CallsD Tryz.prog 76 #[.pointer (some ⟨gr, 0, none⟩)] u w fun e u' w' => u' = u ∧ e = .returned (.tuple #[]) ∧ RollAt w' gr m 0 r2 gm gc t bp ∧ Keeps (fun k => k ≠ gr) w w' := by
  obtain ⟨h0, h1⟩ := cells_at h
  refine (runlock_deferred rwRLib gr 0 1 (.int .i32 m) (.int .u32 0) u w (h0 0) (h0 2) (h0 4) (h1 4) (by rw [w10]; decide)).mono ?_
  rintro e u' w' ⟨rfl, rfl, rfl⟩
  rw [w10]
  exact ⟨rfl, rfl, heap_set_same h 4 (.int .i32 0), Keeps.setCell (a := ⟨gr, 4, none⟩) (fun h => h rfl) _⟩
theorem ru2_any (u : FrameMode) (h : RollAt w gr m r 1 gm gc t bp) : CallsD Tryz.prog 76 #[.pointer (some ⟨gr, 6, none⟩)] u w fun e u' w' => u' = u ∧ e = .returned (.tuple #[]) ∧ RollAt w' gr m r 0 gm gc t bp ∧ Keeps (fun k => k ≠ gr) w w' := by
  obtain ⟨h0, h1⟩ := cells_at h
  refine (runlock_deferred rwRLib gr 6 1 (.int .i32 0) (.int .u32 0) u w (h0 6) (h0 8) (h0 10) (h1 10) (by rw [w10]; decide)).mono ?_
  rintro e u' w' ⟨rfl, rfl, rfl⟩
  rw [w10]
  exact ⟨rfl, rfl, heap_set_same h 10 (.int .i32 0), Keeps.setCell (a := ⟨gr, 10, none⟩) (fun h => h rfl) _⟩
end

/-- a RollbackFiler over levels: its block gr, the captured variable's gc -/
structure RbIs (m r r2 : Int) (tg : Nat → Nat × Nat) (w : World) (gr gc : Nat) (S : St) (va vb : Addr) : Prop where
  roll : ∃ bp : Option Addr, RollAt w gr m r r2 S.gm gc S.t bp ∧ (0 < S.t → bp = some (S.ptr S.t))
  box : w.heap[gc]? = some (.cells #[.pointer (some ⟨S.gm, 0, none⟩)] 68 (0, 0))
  st : StIs tg w S
  tr : (tg gr).1 = 900
  tc : (tg gc).1 = 900
  vars : VarsO tg w va vb

/-- what is kept: all that is outside the levels, but the RollbackFiler's block -/
abbrev OutR (tg : Nat → Nat × Nat) (w : World) (gr : Nat) : Nat → Prop := fun j => j < w.heap.size ∧ 100 ≤ (tg j).1 ∧ j ≠ gr

/-- the locks have turned -/
theorem RbIs.locked {m r r2 m' r' r2' : Int} {tg : Nat → Nat × Nat} {w w' : World} {gr gc : Nat} {S : St} {va vb : Addr} {bp : Option Addr} (h : RbIs m r r2 tg w gr gc S va vb) (hbp : 0 < S.t → bp = some (S.ptr S.t)) (hr : RollAt w' gr m' r' r2' S.gm gc S.t bp) (hk : Keeps (fun k => k ≠ gr) w w') : RbIs m' r' r2' tg w' gr gc S va vb := by
  have htt := h.st.tt
  have tr := h.tr
  refine ⟨⟨bp, hr, hbp⟩, (hk.block gc fun e => ?_).trans h.box, h.st.kept (fun j _ h2 => hk.block j fun e => by subst e; omega) (fun _ _ _ => rfl), h.tr, h.tc, ?_⟩
  · obtain ⟨bp0, h0, -⟩ := h.roll
    have hb := h.box
    rw [e, h0] at hb
    simp at hb
  · exact (h.vars.keeps (hk.mono fun j hj => fun e => by subst e; omega)).mono fun j hj => ⟨Nat.lt_of_lt_of_le hj.1 hk.size, hj.2⟩

/-- the levels have turned -/
theorem RbIs.step {m r r2 : Int} {tg tg' : Nat → Nat × Nat} {w w' : World} {gr gc : Nat} {S S' : St} {va vb : Addr} (h : RbIs m r r2 tg w gr gc S va vb) (hst : StIs tg' w' S') (ht : ∀ j, j < w.heap.size → tg' j = tg j) (hk : Keeps (fun j => j < w.heap.size ∧ 900 ≤ (tg j).1) w w') (gm : S'.gm = S.gm) (tt : S'.t = S.t) (pt : S'.ptr S.t = S.ptr S.t) : RbIs m r r2 tg' w' gr gc S' va vb := by
  obtain ⟨bp, h0, h1⟩ := h.roll
  have hgr := lt_of_heap h0
  have hgc := lt_of_heap h.box
  refine ⟨⟨bp, ?_, ?_⟩, ?_, hst, by rw [ht gr hgr]; exact h.tr, by rw [ht gc hgc]; exact h.tc, ?_⟩
  · rw [gm, tt]
    exact (hk.block gr ⟨hgr, by rw [h.tr]; exact Nat.le_refl _⟩).trans h0
  · rw [tt, pt]
    exact h1
  · rw [gm]
    exact (hk.block gc ⟨hgc, by rw [h.tc]; exact Nat.le_refl _⟩).trans h.box
  · exact (h.vars.keeps (hk.mono fun j hj => ⟨hj.1, by omega⟩)).mono fun j hj => ⟨Nat.lt_of_lt_of_le hj.1 hk.size, by rw [ht j hj.1]; exact hj.2⟩

end Go.Proofs.YtkkliejgmgmebaaGreatDoor

namespace Go.Proofs.YtkkliejgmgmebaaGreatDoor
open Go.RowKit

theorem RbIs.renew {m r r2 m' r' r2' : Int} {tg tg' : Nat → Nat × Nat} {w w' : World} {gr gc : Nat} {S S' : St} {va vb : Addr} {bp : Option Addr} (h : RbIs m r r2 tg w gr gc S va vb) (hst : StIs tg' w' S') (ht : ∀ j, j < w.heap.size → tg' j = tg j) (hk : Keeps (fun j => j < w.heap.size ∧ 900 ≤ (tg j).1 ∧ j ≠ gr) w w')
    (gm : S'.gm = S.gm) (hr : RollAt w' gr m' r' r2' S'.gm gc S'.t bp) (hbp : 0 < S'.t → bp = some (S'.ptr S'.t)) : RbIs m' r' r2' tg' w' gr gc S' va vb := by
  obtain ⟨bp0, h0, h1⟩ := h.roll
  have hgr := lt_of_heap h0
  have hgc := lt_of_heap h.box
  have ne : gc ≠ gr := fun e => by
    have hb := h.box
    rw [e, h0] at hb
    simp at hb
  have tr := h.tr
  refine ⟨⟨bp, hr, hbp⟩, ?_, hst, by rw [ht gr hgr]; exact h.tr, by rw [ht gc hgc]; exact h.tc, ?_⟩
  · rw [gm]
    exact (hk.block gc ⟨hgc, by rw [h.tc]; exact Nat.le_refl _, ne⟩).trans h.box
  · exact (h.vars.keeps (hk.mono fun j hj => ⟨hj.1, by omega, fun e => by subst e; omega⟩)).mono fun j hj => ⟨Nat.lt_of_lt_of_le hj.1 hk.size, by rw [ht j hj.1]; exact hj.2⟩

theorem St.ptr_succ {S : St} (h : 0 < S.t) : S.ptr S.t = ⟨(S.L S.t).b, 0, none⟩ := by
  cases e : S.t with
  | zero => omega
  | succ t => rfl

set_option maxRecDepth 100000 in
theorem rsz {m r r2 : Int} {tg : Nat → Nat × Nat} {w : World} {gr gc : Nat} {S : St} {va vb : Addr} (h : RbIs m r r2 tg w gr gc S va vb) :
    Calls Tryz.prog 70 #[.pointer (some ⟨gr, 0, none⟩)] w fun e w' => e = .returned (.tuple #[.int .i64 (S.size S.t : Int), .nilIface]) ∧ w' = w := by
  obtain ⟨bp, hr, hbp⟩ := h.roll
  obtain ⟨c12, -, c14, -, -, c17, -⟩ := hr.cells
  by_cases h0 : S.t = 0
  · have hp := psize h.st 0 (Nat.zero_le _)
    rw [h0] at c17 ⊢
    have na := nil_ahead_sM ⟨S.gm, 0, none⟩
    have me := method_sM ⟨S.gm, 0, none⟩
    have HP := Lib.hid hp
    clear hp h hr hbp h0
    go_enter Tryz.func70, Tryz.ntmps70
    (repeat (first | go_values | go_skip | go_guarded | go_step | go_upon))
    refine HP.out.mono ?_
    rintro e w' ⟨rfl, rfl⟩
    dsimp only
    (repeat (first | go_values | go_skip | go_guarded | go_step | go_upon))
    go_ret2
    exact ⟨rfl, rfl⟩
  · have hbp' := hbp (by omega)
    obtain ⟨k, hk⟩ : ∃ k, S.t = k + 1 := ⟨S.t - 1, by omega⟩
    have hp := psize h.st (k + 1) (by omega)
    rw [hk] at hbp' c17 ⊢
    rw [hbp'] at c12
    have h1 : ¬ ((k + 1 : Nat) : Int) = 0 := by omega
    have c12' : w.cell? ⟨gr, 12, none⟩ = some (.pointer (some ⟨(S.L (k + 1)).b, 0, none⟩)) := c12
    have HP := Lib.hid hp
    clear hp h hr hbp h0 hbp' hk c12
    generalize ((k + 1 : Nat) : Int) = z at *
    go_enter Tryz.func70, Tryz.ntmps70
    (repeat (first | go_values | go_skip | go_guarded | go_step | go_upon))
    refine HP.out.mono ?_
    rintro e w' ⟨rfl, rfl⟩
    dsimp only
    (repeat (first | go_values | go_skip | go_guarded | go_step | go_upon))
    go_ret2
    exact ⟨rfl, rfl⟩

set_option maxRecDepth 100000 in
theorem rsize {tg : Nat → Nat × Nat} {w : World} {gr gc : Nat} {S : St} {va vb : Addr} (h : RbIs 0 0 0 tg w gr gc S va vb) :
    Calls Tryz.prog 64 #[.pointer (some ⟨gr, 0, none⟩)] w fun e w' => e = .returned (.tuple #[.int .i64 (S.size S.t : Int), .nilIface]) ∧ RbIs 0 0 0 tg w' gr gc S va vb ∧ Keeps (fun k => k ≠ gr) w w' := by
  obtain ⟨bp, hr, hbp⟩ := h.roll
  have H := Lib.hid h
  have HR := Lib.hid hr
  have HB := Lib.hid hbp
  clear h hr hbp
  go_enter_defers Tryz.func64, Tryz.ntmps64
  (repeat (first | go_values | go_skip | go_guarded | go_step | go_upon))
  refine (wl_any HR.out).mono ?_
  rintro e w1 ⟨rfl, hr1, hk1⟩
  have h1 := H.out.locked HB.out hr1 hk1
  have H1 := Lib.hid h1
  have HK1 := Lib.hid hk1
  clear h1 hk1 hr1
  dsimp only
  (repeat (first | go_values | go_skip | go_guarded | go_step | go_upon))
  refine (rsz H1.out).mono ?_
  rintro e w2 ⟨rfl, rfl⟩
  dsimp only
  (repeat (first | go_values | go_skip | go_guarded | go_step | go_upon))
  refine leaves_cons (f := 68) (args := #[.pointer (some ⟨gr, 0, none⟩)]) (by simp) (by simp [go_sem]) ?_
  obtain ⟨bp', hr', hb'⟩ := H1.out.roll
  refine (wu_any .returning hr').mono ?_
  rintro e u' w3 ⟨rfl, rfl, hr3, hk3⟩
  exact ⟨_, results_tmp2 rfl _ _ _, rfl, H1.out.locked hb' hr3 hk3, HK1.out.trans hk3⟩

theorem push_ptr (S : St) (b m : Nat) : (S.push b m).ptr (S.push b m).t = ⟨b, 0, none⟩ := by
  show (⟨((S.push b m).L (S.t + 1)).b, 0, none⟩ : Addr) = _
  rw [St.push_top]

/-- a new level: the RollbackFiler's two cells -/
theorem RbIs.pushed {m r r2 : Int} {tg tg' : Nat → Nat × Nat} {w w' : World} {gr gc b mm : Nat} {S : St} {va vb : Addr} (h : RbIs m r r2 tg w gr gc S va vb) (hst : StIs tg' w' (S.push b mm)) (ht : ∀ j, j < w.heap.size → tg' j = tg j) (hk : Keeps (Old w) w w') :
    w'.cell? ⟨gr, 12, none⟩ ≠ none ∧ RbIs m r r2 tg' ((w'.setCell ⟨gr, 12, none⟩ (.pointer (some ⟨b, 0, none⟩))).setCell ⟨gr, 17, none⟩ (.int .i64 ((S.t + 1 : Nat) : Int))) gr gc (S.push b mm) va vb := by
  obtain ⟨bp, h0, -⟩ := h.roll
  have hgr := lt_of_heap h0
  have h1 : RollAt w' gr m r r2 S.gm gc S.t bp := (hk.block gr hgr).trans h0
  have h2 : RollAt ((w'.setCell ⟨gr, 12, none⟩ (.pointer (some ⟨b, 0, none⟩))).setCell ⟨gr, 17, none⟩ (.int .i64 ((S.t + 1 : Nat) : Int))) gr m r r2 S.gm gc (S.t + 1) (some ⟨b, 0, none⟩) :=
    heap_set_same (heap_set_same h1 12 _) 17 _
  have htg : (tg' gr).1 = 900 := by rw [ht gr hgr]; exact h.tr
  have htt := hst.tt
  refine ⟨by rw [h1.cells.1]; simp, h.renew (hst.kept (fun j _ h2 => ?_) (fun _ _ _ => rfl)) ht ((hk.mono fun j hj => hj.1).trans ((Keeps.setCell (a := ⟨gr, 12, none⟩) (fun hh => hh.2.2 rfl) _).trans (Keeps.setCell (a := ⟨gr, 17, none⟩) (fun hh => hh.2.2 rfl) _))) rfl h2 (fun _ => by rw [push_ptr])⟩
  have ne : j ≠ gr := fun e => by subst e; omega
  rw [heap_set_other _ _ _ ne, heap_set_other _ _ _ ne]

set_option maxRecDepth 100000 in
theorem rbegin {tg : Nat → Nat × Nat} {w : World} {gr gc : Nat} {S : St} {va vb : Addr} (h : RbIs 0 0 0 tg w gr gc S va vb) (ht : S.t < 30) :
    Calls Tryz.prog 58 #[.pointer (some ⟨gr, 0, none⟩)] w fun e w' => e = .returned .nilIface ∧ ∃ tg' b mm, RbIs 0 0 0 tg' w' gr gc (S.push b mm) va vb ∧ (∀ j, j < w.heap.size → tg' j = tg j) ∧ Keeps (fun j => j < w.heap.size ∧ j ≠ gr) w w' := by
  obtain ⟨bp, hr, hbp⟩ := h.roll
  have H := Lib.hid h
  have HR := Lib.hid hr
  have HB := Lib.hid hbp
  have q5 := neq_nil_nil
  clear h hr hbp
  go_enter_defers Tryz.func58, Tryz.ntmps58
  (repeat (first | go_values | go_skip | go_guarded | go_step | go_upon))
  refine (wl_any HR.out).mono ?_
  rintro e w1 ⟨rfl, hr1, hk1⟩
  have h1 := H.out.locked HB.out hr1 hk1
  obtain ⟨c12, -, c14, -, -, c17, -⟩ := hr1.cells
  have NB := newBit tg w1 S h1.st ht
  have fin : ∀ w2, (∃ tg', StIs tg' w2 (S.push (w1.heap.size + 1) w1.heap.size) ∧ (∀ j, j < w1.heap.size → tg' j = tg j) ∧ Keeps (Old w1) w1 w2) →
      w2.cell? ⟨gr, 12, none⟩ = some (.pointer bp) ∧ w2.frozen? ⟨gr, 12, none⟩ = false ∧ w2.cell? ⟨gr, 17, none⟩ = some (.int .i64 (S.t : Int)) ∧ w2.frozen? ⟨gr, 17, none⟩ = false ∧
      ∃ tg', RbIs 1 (-1073741824) 0 tg' ((w2.setCell ⟨gr, 12, none⟩ (.pointer (some ⟨w1.heap.size + 1, 0, none⟩))).setCell ⟨gr, 17, none⟩ (.int .i64 ((S.t + 1 : Nat) : Int))) gr gc (S.push (w1.heap.size + 1) w1.heap.size) va vb ∧ (∀ j, j < w1.heap.size → tg' j = tg j) ∧
        Keeps (fun j => j < w.heap.size ∧ j ≠ gr) w ((w2.setCell ⟨gr, 12, none⟩ (.pointer (some ⟨w1.heap.size + 1, 0, none⟩))).setCell ⟨gr, 17, none⟩ (.int .i64 ((S.t + 1 : Nat) : Int))) := by
    rintro w2 ⟨tg', hst, htg, hk2⟩
    have hr2 : RollAt w2 gr 1 (-1073741824) 0 S.gm gc S.t bp := (hk2.block gr (lt_of_heap hr1)).trans hr1
    obtain ⟨d12, -, -, -, -, d17, -, f12, f17⟩ := hr2.cells
    refine ⟨d12, f12, d17, f17, tg', (h1.pushed hst htg hk2).2, htg, ((hk1.mono fun j hj => hj.2).trans (hk2.mono fun j hj => Nat.lt_of_lt_of_le hj.1 hk1.size)).trans ((Keeps.setCell (a := ⟨gr, 12, none⟩) (fun hh => hh.2 rfl) _).trans (Keeps.setCell (a := ⟨gr, 17, none⟩) (fun hh => hh.2 rfl) _))⟩
  have HS1 := hk1.size
  have FIN := Lib.hid fin
  have HBP := Lib.hid HB.out
  clear h1 hk1 hr1 fin HB
  dsimp only
  by_cases h0 : S.t = 0
  · have hp0 : S.par S.t = .iface 68 (.pointer (some ⟨S.gm, 0, none⟩)) := by rw [h0]; rfl
    rw [hp0] at NB
    have NB' := Lib.hid NB
    have h00 : ((S.t : Nat) : Int) = 0 := by omega
    have e1 : ((S.t + 1 : Nat) : Int) = 1 := by omega
    rw [h00] at c17
    rw [h00, e1] at FIN
    clear NB hp0 h0 h00 e1
    (repeat (first | go_values | go_skip | go_guarded | go_step | go_upon))
    refine NB'.out.mono ?_
    rintro e w2 ⟨rfl, h2⟩
    obtain ⟨d12, f12, d17, f17, tg', hrb, htg, hk⟩ := FIN.out w2 h2
    have HRB := Lib.hid hrb
    have HTG := Lib.hid htg
    have HK := Lib.hid hk
    clear FIN h2 hrb htg hk
    dsimp only
    (repeat (first | go_values | go_skip | go_guarded | go_step | go_upon))
    refine leaves_cons (f := 68) (args := #[.pointer (some ⟨gr, 0, none⟩)]) (by simp) (by simp [go_sem]) ?_
    obtain ⟨bp', hr', hb'⟩ := HRB.out.roll
    refine (wu_any .returning hr').mono ?_
    rintro e u' w3 ⟨rfl, rfl, hr3, hk3⟩
    exact ⟨_, results_tmp rfl _ _ _, rfl, tg', _, _, HRB.out.locked hb' hr3 hk3, fun j hj => HTG.out j (Nat.lt_of_lt_of_le hj HS1), HK.out.trans (hk3.mono fun j hj => hj.2)⟩
  · have hp0 : S.par S.t = .iface 105 (.pointer bp) := by
      rw [HBP.out (by omega)]
      obtain ⟨k, hk⟩ : ∃ k, S.t = k + 1 := ⟨S.t - 1, by omega⟩
      rw [hk]; rfl
    rw [hp0] at NB
    have NB' := Lib.hid NB
    have h00 : ¬ ((S.t : Nat) : Int) = 0 := by omega
    have w1e : ((S.t + 1 : Nat) : Int) = ((S.t : Int) + 1) := by omega
    rw [w1e] at FIN
    clear NB hp0 h0 w1e
    (repeat (first | go_values | go_skip | go_guarded | go_step | go_upon))
    refine NB'.out.mono ?_
    rintro e w2 ⟨rfl, h2⟩
    obtain ⟨d12, f12, d17, f17, tg', hrb, htg, hk⟩ := FIN.out w2 h2
    have HRB := Lib.hid hrb
    have HTG := Lib.hid htg
    have HK := Lib.hid hk
    clear FIN h2 hrb htg hk
    dsimp only
    (repeat (first | go_values | go_skip | go_guarded | go_step | go_upon))
    refine leaves_cons (f := 68) (args := #[.pointer (some ⟨gr, 0, none⟩)]) (by simp) (by simp [go_sem]) ?_
    obtain ⟨bp', hr', hb'⟩ := HRB.out.roll
    refine (wu_any .returning hr').mono ?_
    rintro e u' w3 ⟨rfl, rfl, hr3, hk3⟩
    exact ⟨_, results_tmp rfl _ _ _, rfl, tg', _, _, HRB.out.locked hb' hr3 hk3, fun j hj => HTG.out j (Nat.lt_of_lt_of_le hj HS1), HK.out.trans (hk3.mono fun j hj => hj.2)⟩

end Go.Proofs.YtkkliejgmgmebaaGreatDoor
