/-
  File.kept.
-/
import Derived.Test.YtkkliejgmgmebaaDoorS0
namespace Go.Proofs.YtkkliejgmgmebaaDoor
open Go.RowKit

theorem make_run {P : Program} (w : World) (t e : TypeId) (i : TypeInfo) (z : Value) (ht : P.underlying t = some (.slice e)) (hi : P.info? e = some i) (hz : i.zero = some z) (hs : i.size = 1) (hb : i.bytes = 1) (n : Nat) (hn : n ≤ 140737488355328) :
    (Instr.makeSlice t (.int .i64 (n : Int)) (.int .i64 (n : Int))).run P w = .ok (.slice (some ⟨w.heap.size, 0, none⟩) n n) (w.alloc (.cells (madeCells z.cells n) e)) := by
  have := run_make (P := P) w t e i z ht hi hz .i64 .i64 n n (by omega) (Int.le_refl _) (by rw [hb]; omega) (by omega)
  simp only [Int.toNat_natCast, hs, Nat.mul_one] at this
  exact this

theorem Row.make (Pr : Nat → Prop) (w : World) (hi : Inw Pr w) (e : TypeId) (z : Value) (n : Nat) (hn : n ≤ 140737488355328) {B : Nat} (hB : B = w.heap.size) :
    Row Pr (w.alloc (.cells (madeCells #[z] n) e)) e 1 (.slice (some ⟨B, 0, none⟩) n n) n (List.replicate n z) := by
  subst hB
  exact Row.new Pr w hi.new _ n n (Nat.le_refl _) (by unfold maxLen; omega) (by simp [madeCells]) (by rw [toList_madeCells_one, Nat.mul_one, List.take_replicate, Nat.min_self])

set_option maxRecDepth 100000 in
set_option maxHeartbeats 1000000 in
theorem kept_any (Pr : Nat → Prop) (g : Nat) (vd vk vw : Value) (F : Fl) (w : World) (hin : Inw Pr w) (h : FileIs Pr w g vd vk vw F) (hl : F.d.length ≤ 100000000) :
    Calls Tryd.prog 17 #[.pointer (some ⟨g, 0, none⟩)] w fun e w' => e = .returned (.tuple #[]) ∧ ∃ vw', FileIs Pr w' g vd vk vw' ⟨F.d, F.k, List.replicate F.d.length false⟩ ∧ Keeps Pr w w' := by
  obtain ⟨i0, hi, hz0, hz1, hz2⟩ := info_parts infoBool
  obtain ⟨c0, c1, c2, f0, f1, f2⟩ := h.cells
  obtain ⟨a, c, rfl, -⟩ := h.v.rd.slice
  have hmk := fun W => make_run (P := Tryd.prog) W 25 4 i0 (.bool false) Tryd.underlying25 hi hz0 hz1 hz2 F.d.length (by omega)
  have H := Lib.hid h
  have HI := Lib.hid hin
  have hg := lt_of_heap h.cell
  clear h hin
  go_enter Tryd.func17, Tryd.ntmps17
  go_wp2
  go_end0
  have h := H.out
  have hin := HI.out
  have hi2 : Inw Pr (w.setCell ⟨g, 2, none⟩ (.slice (some ⟨w.heap.size, 0, none⟩) F.d.length F.d.length)) := hin.mono (by rw [size_set]; exact Nat.le_refl _)
  refine ⟨rfl, .slice (some ⟨w.heap.size, 0, none⟩) F.d.length F.d.length, ⟨?_, h.ng, ⟨?_, ?_, ?_, ?_⟩⟩, (Keeps.setCell (a := ⟨g, 2, none⟩) h.ng _).trans (Keeps.alloc hi2 _)⟩
  · rw [heap_alloc_lt _ _ (by rw [size_set]; exact hg), heap_set_same h.cell]; rfl
  · exact (h.v.rd.setOther h.cell (by decide) _ _).alloc _
  · exact (h.v.rk.setOther h.cell (by decide) _ _).alloc _
  · have := Row.make Pr _ hi2 4 (.bool false) F.d.length (by omega) (B := w.heap.size) (by rw [size_set])
    simpa using this
  · intro k hk e
    have := (h.v.rk.own hk).1
    simp only [Value.ownBlock, Option.some.injEq] at e
    omega

end Go.Proofs.YtkkliejgmgmebaaDoor
