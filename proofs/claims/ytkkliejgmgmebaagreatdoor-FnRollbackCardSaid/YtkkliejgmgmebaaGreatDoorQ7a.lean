/-
  Nested.Call: was nothing left by the transaction that ends? (printed by gen_q7a.py)
-/
import Derived.Test.YtkkliejgmgmebaaGreatDoorQb
import Derived.StillTailTactics
namespace Go.Proofs.YtkkliejgmgmebaaGreatDoor
open Go.RowKit

theorem still_val {P : Program} {ops : Array Oper} {w : World} {Q : Act → Prop} {o : Oper} {rest : List Oper} {a : Act} {v : Value} (hw : Region.wanted o (yielded ops a.tmps) = true) (hr : (execOp a.eval o).run P w = .ok (.value v) w) (h : wpStill P ops w Q rest (a.put o.dst v)) : wpStill P ops w Q (o :: rest) a :=
  wpStill_step fun K hK => by
    rw [if_pos hw]
    unfold Oper.still
    rw [hr]
    exact ⟨rfl, hK _ h⟩
theorem still_no {P : Program} {ops : Array Oper} {w : World} {Q : Act → Prop} {o : Oper} {rest : List Oper} {a : Act} (hw : Region.wanted o (yielded ops a.tmps) = false) (h : wpStill P ops w Q rest (a.put o.dst undef)) : wpStill P ops w Q (o :: rest) a :=
  wpStill_step fun K hK => by
    rw [if_neg (by rw [hw]; decide)]
    exact hK _ h
theorem still_fn {P : Program} {ops : Array Oper} {w : World} {Q : Act → Prop} {o : Oper} {rest : List Oper} {a : Act} {v : Value} {f : FuncId} {args : Array Value} (hw : Region.wanted o (yielded ops a.tmps) = true) (hr : (execOp a.eval o).run P w = .ok (.enter f args) w) (hc : Calls P f args w fun e w' => e = .returned v ∧ w' = w) (h : wpStill P ops w Q rest (a.put o.dst v)) : wpStill P ops w Q (o :: rest) a :=
  wpStill_step fun K hK => by
    rw [if_pos hw]
    unfold Oper.still
    rw [hr]
    exact ⟨rfl, v, hc, hK _ h⟩

theorem still_end {P : Program} {ops : Array Oper} {w : World} {Q : Act → Prop} {a : Act} (a' : Act) (e : a = a') (h : Q a') : wpStill P ops w Q [] a := wpStill_nil (by rw [e]; exact h)

theorem ld_op {o : Oper} {t : TypeId} {x : Operand} {a : Act} {p : Addr} {v : Value} {w : World} (ho : o.op = .load t x) (he : a.eval x = .pointer (some p)) (hl : (Instr.loadAt t (.pointer (some p))).run Tryz.prog w = .ok v w) : (execOp a.eval o).run Tryz.prog w = .ok (.value v) w := by
  simp [execOp, ho, he, hl, Result.andThen]
theorem ld_bool {w : World} {p : Addr} {v : Bool} (h : w.cell? p = some (.bool v)) : (Instr.loadAt 4 (.pointer (some p))).run Tryz.prog w = .ok (.bool v) w := by go_simp
theorem ld_bytes {w : World} {p : Addr} {a : Option Addr} {n c : Nat} (h : w.cell? p = some (.slice a n c)) : (Instr.loadAt 22 (.pointer (some p))).run Tryz.prog w = .ok (.slice a n c) w := by go_simp
theorem ld_files {w : World} {p : Addr} {a : Option Addr} {n c : Nat} (h : w.cell? p = some (.slice a n c)) : (Instr.loadAt 35 (.pointer (some p))).run Tryz.prog w = .ok (.slice a n c) w := by go_simp

attribute [local irreducible] wpStill

noncomputable def regE : Code := ((Tryz.f15.body.bind (regionOf 11)).getD .skip)
structure frmEp (s0 s3 s4 s5 s17 : Value) (a : Act) : Prop where
  df : a.defers = []
  sz : a.tmps.size = 173
  h0 : a.tmps.getD 0 undef = s0
  h3 : a.tmps.getD 3 undef = s3
  h4 : a.tmps.getD 4 undef = s4
  h5 : a.tmps.getD 5 undef = s5
  h17 : a.tmps.getD 17 undef = s17
set_option maxRecDepth 100000 in
theorem frmE {s0 s3 s4 s5 s17 : Value} {a : Act} (h : frmEp s0 s3 s4 s5 s17 a) : ∃ u : Nat → Value, a = ⟨#[s0, u 1, u 2, s3, s4, s5, u 6, u 7, u 8, u 9, u 10, u 11, u 12, u 13, u 14, u 15, u 16, s17, u 18, u 19, u 20, u 21, u 22, u 23, u 24, u 25, u 26, u 27, u 28, u 29, u 30, u 31, u 32, u 33, u 34, u 35, u 36, u 37, u 38, u 39, u 40, u 41, u 42, u 43, u 44, u 45, u 46, u 47, u 48, u 49, u 50, u 51, u 52, u 53, u 54, u 55, u 56, u 57, u 58, u 59, u 60, u 61, u 62, u 63, u 64, u 65, u 66, u 67, u 68, u 69, u 70, u 71, u 72, u 73, u 74, u 75, u 76, u 77, u 78, u 79, u 80, u 81, u 82, u 83, u 84, u 85, u 86, u 87, u 88, u 89, u 90, u 91, u 92, u 93, u 94, u 95, u 96, u 97, u 98, u 99, u 100, u 101, u 102, u 103, u 104, u 105, u 106, u 107, u 108, u 109, u 110, u 111, u 112, u 113, u 114, u 115, u 116, u 117, u 118, u 119, u 120, u 121, u 122, u 123, u 124, u 125, u 126, u 127, u 128, u 129, u 130, u 131, u 132, u 133, u 134, u 135, u 136, u 137, u 138, u 139, u 140, u 141, u 142, u 143, u 144, u 145, u 146, u 147, u 148, u 149, u 150, u 151, u 152, u 153, u 154, u 155, u 156, u 157, u 158, u 159, u 160, u 161, u 162, u 163, u 164, u 165, u 166, u 167, u 168, u 169, u 170, u 171, u 172], []⟩ := by
  obtain ⟨F, df⟩ := a
  obtain ⟨rfl, hs, rfl, rfl, rfl, rfl, rfl⟩ := h
  refine ⟨fun i => F.getD i undef, ?_⟩
  have e := open_frame F
  rw [hs] at e
  exact congrArg (Act.mk · []) e

set_option maxRecDepth 100000 in
set_option maxHeartbeats 4000000 in
theorem end_open (gn gs cap _n0 _q0 _n1 _q1 : Nat) (_a0 _a1 : Option Addr) (s3 s4 s5 s17 : Value) (W : World) (u : Nat → Value) (_hcap : 2 ≤ cap)
    (c0 : W.cell? ⟨gn, 0, none⟩ = some (.slice (some ⟨gs, 0, none⟩) 2 cap)) (c1 : W.cell? ⟨gn, 1, none⟩ = some (.bool true)) (f1 : W.frozen? ⟨gn, 1, none⟩ = false) :
    Code.wp Tryz.prog regE (fun e a' w' => e = .normal ∧ frmEp (.pointer (some ⟨gn, 0, none⟩)) s3 s4 s5 s17 a' ∧ w' = W.drew.setCell ⟨gn, 1, none⟩ (.bool true))
      ⟨#[.pointer (some ⟨gn, 0, none⟩), u 1, u 2, s3, s4, s5, u 6, u 7, u 8, u 9, u 10, u 11, u 12, u 13, u 14, u 15, u 16, s17, u 18, u 19, u 20, u 21, u 22, u 23, u 24, u 25, u 26, u 27, u 28, u 29, u 30, u 31, u 32, u 33, u 34, u 35, u 36, u 37, u 38, u 39, u 40, u 41, u 42, u 43, u 44, u 45, u 46, u 47, u 48, u 49, u 50, u 51, u 52, u 53, u 54, u 55, u 56, u 57, u 58, u 59, u 60, u 61, u 62, u 63, u 64, u 65, u 66, u 67, u 68, u 69, u 70, u 71, u 72, u 73, u 74, u 75, u 76, u 77, u 78, u 79, u 80, u 81, u 82, u 83, u 84, u 85, u 86, u 87, u 88, u 89, u 90, u 91, u 92, u 93, u 94, u 95, u 96, u 97, u 98, u 99, u 100, u 101, u 102, u 103, u 104, u 105, u 106, u 107, u 108, u 109, u 110, u 111, u 112, u 113, u 114, u 115, u 116, u 117, u 118, u 119, u 120, u 121, u 122, u 123, u 124, u 125, u 126, u 127, u 128, u 129, u 130, u 131, u 132, u 133, u 134, u 135, u 136, u 137, u 138, u 139, u 140, u 141, u 142, u 143, u 144, u 145, u 146, u 147, u 148, u 149, u 150, u 151, u 152, u 153, u 154, u 155, u 156, u 157, u 158, u 159, u 160, u 161, u 162, u 163, u 164, u 165, u 166, u 167, u 168, u 169, u 170, u 171, u 172], []⟩ W := by
  have e0 : W.drew.cell? ⟨gn, 0, none⟩ = some (.slice (some ⟨gs, 0, none⟩) 2 cap) := c0
  have e1 : W.drew.cell? ⟨gn, 1, none⟩ = some (.bool true) := c1
  have g1 : W.drew.frozen? ⟨gn, 1, none⟩ = false := f1
  have l0 := ld_files e0
  have l1 := ld_bool e1
  clear c0 c1 f1 e0
  conv => arg 2; whnf
  refine wp_region_still_tail 35 (by kernel_rfl) (by kernel_rfl) ?_
  simp only [List.take_succ_cons, List.take_zero, List.drop_succ_cons, List.drop_zero]
  change wpStill _ _ (World.drew W) (fun a' => wpList _ _ _ _ a' (World.drew W)) _ _
  generalize World.drew W = V at *
  refine still_val (v := .pointer (some ⟨gn, 0, none⟩)) (by kernel_rfl) (by kernel_rfl) ?_
  refine still_val (v := .pointer (some ⟨gn, 0, none⟩)) (by kernel_rfl) (by kernel_rfl) ?_
  refine still_val (v := .pointer (some ⟨gn, 0, none⟩)) (by kernel_rfl) (by kernel_rfl) ?_
  refine still_val (v := .pointer (some ⟨gn, 1, none⟩)) (by kernel_rfl) (by kernel_rfl) ?_
  refine still_val (v := .bool true) (by kernel_rfl) (ld_op rfl (by kernel_rfl) l1) ?_
  refine still_val (v := .bool true) (by kernel_rfl) (by kernel_rfl) ?_
  refine still_no (by kernel_rfl) ?_
  refine still_no (by kernel_rfl) ?_
  refine still_no (by kernel_rfl) ?_
  refine still_no (by kernel_rfl) ?_
  refine still_no (by kernel_rfl) ?_
  refine still_no (by kernel_rfl) ?_
  refine still_no (by kernel_rfl) ?_
  refine still_no (by kernel_rfl) ?_
  refine still_no (by kernel_rfl) ?_
  refine still_no (by kernel_rfl) ?_
  refine still_no (by kernel_rfl) ?_
  refine still_no (by kernel_rfl) ?_
  refine still_no (by kernel_rfl) ?_
  refine still_no (by kernel_rfl) ?_
  refine still_no (by kernel_rfl) ?_
  refine still_no (by kernel_rfl) ?_
  refine still_no (by kernel_rfl) ?_
  refine still_no (by kernel_rfl) ?_
  refine still_no (by kernel_rfl) ?_
  refine still_no (by kernel_rfl) ?_
  refine still_no (by kernel_rfl) ?_
  refine still_no (by kernel_rfl) ?_
  refine still_no (by kernel_rfl) ?_
  refine still_no (by kernel_rfl) ?_
  refine still_no (by kernel_rfl) ?_
  refine still_no (by kernel_rfl) ?_
  refine still_val (v := .bool true) (by kernel_rfl) (by kernel_rfl) ?_
  refine still_val (v := .pointer (some ⟨gn, 0, none⟩)) (by kernel_rfl) (by kernel_rfl) ?_
  refine still_val (v := .pointer (some ⟨gn, 1, none⟩)) (by kernel_rfl) (by kernel_rfl) ?_
  refine still_end ⟨#[.pointer (some ⟨gn, 0, none⟩), u 1, u 2, s3, s4, s5, u 6, u 7, u 8, u 9, u 10, u 11, u 12, u 13, u 14, u 15, u 16, s17, u 18, u 19, u 20, u 21, u 22, u 23, u 24, u 25, u 26, u 27, u 28, u 29, u 30, u 31, u 32, u 33, u 34, u 35, u 36, u 37, u 38, u 39, u 40, u 41, u 42, u 43, u 44, u 45, u 46, .pointer (some ⟨gn, 0, none⟩), .pointer (some ⟨gn, 0, none⟩), .pointer (some ⟨gn, 0, none⟩), .pointer (some ⟨gn, 1, none⟩), .bool true, .bool true, undef, undef, undef, undef, undef, undef, undef, undef, undef, undef, undef, undef, undef, undef, undef, undef, undef, undef, undef, undef, undef, undef, undef, undef, undef, undef, .bool true, .pointer (some ⟨gn, 0, none⟩), .pointer (some ⟨gn, 1, none⟩), u 82, u 83, u 84, u 85, u 86, u 87, u 88, u 89, u 90, u 91, u 92, u 93, u 94, u 95, u 96, u 97, u 98, u 99, u 100, u 101, u 102, u 103, u 104, u 105, u 106, u 107, u 108, u 109, u 110, u 111, u 112, u 113, u 114, u 115, u 116, u 117, u 118, u 119, u 120, u 121, u 122, u 123, u 124, u 125, u 126, u 127, u 128, u 129, u 130, u 131, u 132, u 133, u 134, u 135, u 136, u 137, u 138, u 139, u 140, u 141, u 142, u 143, u 144, u 145, u 146, u 147, u 148, u 149, u 150, u 151, u 152, u 153, u 154, u 155, u 156, u 157, u 158, u 159, u 160, u 161, u 162, u 163, u 164, u 165, u 166, u 167, u 168, u 169, u 170, u 171, u 172], []⟩ (by kernel_rfl) ?_
  show wpList _ _ _ _ _ _
  (repeat (first | go_values | go_skip | go_guarded | go_step | go_upon))
  exact ⟨rfl, ⟨rfl, rfl, rfl, rfl, rfl, rfl, rfl⟩, rfl⟩

set_option maxRecDepth 100000 in
set_option maxHeartbeats 4000000 in
theorem end_dirty (gn gs cap _n0 _q0 _n1 _q1 : Nat) (_a0 _a1 : Option Addr) (s3 s4 s5 s17 : Value) (W : World) (u : Nat → Value) (_hcap : 2 ≤ cap)
    (c0 : W.cell? ⟨gn, 0, none⟩ = some (.slice (some ⟨gs, 0, none⟩) 2 cap)) (c1 : W.cell? ⟨gn, 1, none⟩ = some (.bool false)) (f1 : W.frozen? ⟨gn, 1, none⟩ = false) (hd : Calls Tryz.prog 23 #[.pointer (some ⟨gs, 3, none⟩)] W.drew fun e w' => e = .returned (.bool true) ∧ w' = W.drew) :
    Code.wp Tryz.prog regE (fun e a' w' => e = .normal ∧ frmEp (.pointer (some ⟨gn, 0, none⟩)) s3 s4 s5 s17 a' ∧ w' = W.drew.setCell ⟨gn, 1, none⟩ (.bool false))
      ⟨#[.pointer (some ⟨gn, 0, none⟩), u 1, u 2, s3, s4, s5, u 6, u 7, u 8, u 9, u 10, u 11, u 12, u 13, u 14, u 15, u 16, s17, u 18, u 19, u 20, u 21, u 22, u 23, u 24, u 25, u 26, u 27, u 28, u 29, u 30, u 31, u 32, u 33, u 34, u 35, u 36, u 37, u 38, u 39, u 40, u 41, u 42, u 43, u 44, u 45, u 46, u 47, u 48, u 49, u 50, u 51, u 52, u 53, u 54, u 55, u 56, u 57, u 58, u 59, u 60, u 61, u 62, u 63, u 64, u 65, u 66, u 67, u 68, u 69, u 70, u 71, u 72, u 73, u 74, u 75, u 76, u 77, u 78, u 79, u 80, u 81, u 82, u 83, u 84, u 85, u 86, u 87, u 88, u 89, u 90, u 91, u 92, u 93, u 94, u 95, u 96, u 97, u 98, u 99, u 100, u 101, u 102, u 103, u 104, u 105, u 106, u 107, u 108, u 109, u 110, u 111, u 112, u 113, u 114, u 115, u 116, u 117, u 118, u 119, u 120, u 121, u 122, u 123, u 124, u 125, u 126, u 127, u 128, u 129, u 130, u 131, u 132, u 133, u 134, u 135, u 136, u 137, u 138, u 139, u 140, u 141, u 142, u 143, u 144, u 145, u 146, u 147, u 148, u 149, u 150, u 151, u 152, u 153, u 154, u 155, u 156, u 157, u 158, u 159, u 160, u 161, u 162, u 163, u 164, u 165, u 166, u 167, u 168, u 169, u 170, u 171, u 172], []⟩ W := by
  have e0 : W.drew.cell? ⟨gn, 0, none⟩ = some (.slice (some ⟨gs, 0, none⟩) 2 cap) := c0
  have e1 : W.drew.cell? ⟨gn, 1, none⟩ = some (.bool false) := c1
  have g1 : W.drew.frozen? ⟨gn, 1, none⟩ = false := f1
  have l0 := ld_files e0
  have l1 := ld_bool e1
  clear c0 c1 f1 e0
  conv => arg 2; whnf
  refine wp_region_still_tail 35 (by kernel_rfl) (by kernel_rfl) ?_
  simp only [List.take_succ_cons, List.take_zero, List.drop_succ_cons, List.drop_zero]
  change wpStill _ _ (World.drew W) (fun a' => wpList _ _ _ _ a' (World.drew W)) _ _
  generalize World.drew W = V at *
  refine still_val (v := .pointer (some ⟨gn, 0, none⟩)) (by kernel_rfl) (by kernel_rfl) ?_
  refine still_val (v := .pointer (some ⟨gn, 0, none⟩)) (by kernel_rfl) (by kernel_rfl) ?_
  refine still_val (v := .pointer (some ⟨gn, 0, none⟩)) (by kernel_rfl) (by kernel_rfl) ?_
  refine still_val (v := .pointer (some ⟨gn, 1, none⟩)) (by kernel_rfl) (by kernel_rfl) ?_
  refine still_val (v := .bool false) (by kernel_rfl) (ld_op rfl (by kernel_rfl) l1) ?_
  refine still_val (v := .bool false) (by kernel_rfl) (by kernel_rfl) ?_
  refine still_val (v := .pointer (some ⟨gn, 0, none⟩)) (by kernel_rfl) (by kernel_rfl) ?_
  refine still_val (v := .pointer (some ⟨gn, 0, none⟩)) (by kernel_rfl) (by kernel_rfl) ?_
  refine still_val (v := .pointer (some ⟨gn, 0, none⟩)) (by kernel_rfl) (by kernel_rfl) ?_
  refine still_val (v := .slice (some ⟨gs, 0, none⟩) 2 cap) (by kernel_rfl) (ld_op rfl (by kernel_rfl) l0) ?_
  refine still_val (v := .pointer (some ⟨gs, 3, none⟩)) (by kernel_rfl) (by kernel_rfl) ?_
  refine still_fn (v := .bool true) (by kernel_rfl) (by kernel_rfl) hd ?_
  refine still_val (v := .bool false) (by kernel_rfl) (by kernel_rfl) ?_
  refine still_val (v := .bool false) (by kernel_rfl) (by kernel_rfl) ?_
  refine still_no (by kernel_rfl) ?_
  refine still_no (by kernel_rfl) ?_
  refine still_no (by kernel_rfl) ?_
  refine still_no (by kernel_rfl) ?_
  refine still_no (by kernel_rfl) ?_
  refine still_no (by kernel_rfl) ?_
  refine still_no (by kernel_rfl) ?_
  refine still_no (by kernel_rfl) ?_
  refine still_no (by kernel_rfl) ?_
  refine still_no (by kernel_rfl) ?_
  refine still_no (by kernel_rfl) ?_
  refine still_no (by kernel_rfl) ?_
  refine still_no (by kernel_rfl) ?_
  refine still_no (by kernel_rfl) ?_
  refine still_no (by kernel_rfl) ?_
  refine still_no (by kernel_rfl) ?_
  refine still_no (by kernel_rfl) ?_
  refine still_val (v := .bool false) (by kernel_rfl) (by kernel_rfl) ?_
  refine still_val (v := .bool false) (by kernel_rfl) (by kernel_rfl) ?_
  refine still_val (v := .pointer (some ⟨gn, 0, none⟩)) (by kernel_rfl) (by kernel_rfl) ?_
  refine still_val (v := .pointer (some ⟨gn, 1, none⟩)) (by kernel_rfl) (by kernel_rfl) ?_
  refine still_end ⟨#[.pointer (some ⟨gn, 0, none⟩), u 1, u 2, s3, s4, s5, u 6, u 7, u 8, u 9, u 10, u 11, u 12, u 13, u 14, u 15, u 16, s17, u 18, u 19, u 20, u 21, u 22, u 23, u 24, u 25, u 26, u 27, u 28, u 29, u 30, u 31, u 32, u 33, u 34, u 35, u 36, u 37, u 38, u 39, u 40, u 41, u 42, u 43, u 44, u 45, u 46, .pointer (some ⟨gn, 0, none⟩), .pointer (some ⟨gn, 0, none⟩), .pointer (some ⟨gn, 0, none⟩), .pointer (some ⟨gn, 1, none⟩), .bool false, .bool false, .pointer (some ⟨gn, 0, none⟩), .pointer (some ⟨gn, 0, none⟩), .pointer (some ⟨gn, 0, none⟩), .slice (some ⟨gs, 0, none⟩) 2 cap, .pointer (some ⟨gs, 3, none⟩), .bool true, .bool false, .bool false, undef, undef, undef, undef, undef, undef, undef, undef, undef, undef, undef, undef, undef, undef, undef, undef, undef, .bool false, .bool false, .pointer (some ⟨gn, 0, none⟩), .pointer (some ⟨gn, 1, none⟩), u 82, u 83, u 84, u 85, u 86, u 87, u 88, u 89, u 90, u 91, u 92, u 93, u 94, u 95, u 96, u 97, u 98, u 99, u 100, u 101, u 102, u 103, u 104, u 105, u 106, u 107, u 108, u 109, u 110, u 111, u 112, u 113, u 114, u 115, u 116, u 117, u 118, u 119, u 120, u 121, u 122, u 123, u 124, u 125, u 126, u 127, u 128, u 129, u 130, u 131, u 132, u 133, u 134, u 135, u 136, u 137, u 138, u 139, u 140, u 141, u 142, u 143, u 144, u 145, u 146, u 147, u 148, u 149, u 150, u 151, u 152, u 153, u 154, u 155, u 156, u 157, u 158, u 159, u 160, u 161, u 162, u 163, u 164, u 165, u 166, u 167, u 168, u 169, u 170, u 171, u 172], []⟩ (by kernel_rfl) ?_
  show wpList _ _ _ _ _ _
  (repeat (first | go_values | go_skip | go_guarded | go_step | go_upon))
  exact ⟨rfl, ⟨rfl, rfl, rfl, rfl, rfl, rfl, rfl⟩, rfl⟩

set_option maxRecDepth 100000 in
set_option maxHeartbeats 4000000 in
theorem end_clean (gn gs cap n0 q0 n1 q1 : Nat) (a0 a1 : Option Addr) (s3 s4 s5 s17 : Value) (W : World) (u : Nat → Value) (_hcap : 2 ≤ cap)
    (c0 : W.cell? ⟨gn, 0, none⟩ = some (.slice (some ⟨gs, 0, none⟩) 2 cap)) (c1 : W.cell? ⟨gn, 1, none⟩ = some (.bool false)) (f1 : W.frozen? ⟨gn, 1, none⟩ = false) (hd : Calls Tryz.prog 23 #[.pointer (some ⟨gs, 3, none⟩)] W.drew fun e w' => e = .returned (.bool false) ∧ w' = W.drew) (y0 : W.cell? ⟨gs, 0, none⟩ = some (.slice a0 n0 q0)) (y1 : W.cell? ⟨gs, 3, none⟩ = some (.slice a1 n1 q1)) :
    Code.wp Tryz.prog regE (fun e a' w' => e = .normal ∧ frmEp (.pointer (some ⟨gn, 0, none⟩)) s3 s4 s5 s17 a' ∧ w' = W.drew.setCell ⟨gn, 1, none⟩ (.bool ((n0 : Int) != (n1 : Int))))
      ⟨#[.pointer (some ⟨gn, 0, none⟩), u 1, u 2, s3, s4, s5, u 6, u 7, u 8, u 9, u 10, u 11, u 12, u 13, u 14, u 15, u 16, s17, u 18, u 19, u 20, u 21, u 22, u 23, u 24, u 25, u 26, u 27, u 28, u 29, u 30, u 31, u 32, u 33, u 34, u 35, u 36, u 37, u 38, u 39, u 40, u 41, u 42, u 43, u 44, u 45, u 46, u 47, u 48, u 49, u 50, u 51, u 52, u 53, u 54, u 55, u 56, u 57, u 58, u 59, u 60, u 61, u 62, u 63, u 64, u 65, u 66, u 67, u 68, u 69, u 70, u 71, u 72, u 73, u 74, u 75, u 76, u 77, u 78, u 79, u 80, u 81, u 82, u 83, u 84, u 85, u 86, u 87, u 88, u 89, u 90, u 91, u 92, u 93, u 94, u 95, u 96, u 97, u 98, u 99, u 100, u 101, u 102, u 103, u 104, u 105, u 106, u 107, u 108, u 109, u 110, u 111, u 112, u 113, u 114, u 115, u 116, u 117, u 118, u 119, u 120, u 121, u 122, u 123, u 124, u 125, u 126, u 127, u 128, u 129, u 130, u 131, u 132, u 133, u 134, u 135, u 136, u 137, u 138, u 139, u 140, u 141, u 142, u 143, u 144, u 145, u 146, u 147, u 148, u 149, u 150, u 151, u 152, u 153, u 154, u 155, u 156, u 157, u 158, u 159, u 160, u 161, u 162, u 163, u 164, u 165, u 166, u 167, u 168, u 169, u 170, u 171, u 172], []⟩ W := by
  have e0 : W.drew.cell? ⟨gn, 0, none⟩ = some (.slice (some ⟨gs, 0, none⟩) 2 cap) := c0
  have e1 : W.drew.cell? ⟨gn, 1, none⟩ = some (.bool false) := c1
  have g1 : W.drew.frozen? ⟨gn, 1, none⟩ = false := f1
  have l0 := ld_files e0
  have l1 := ld_bool e1
  have m0 := ld_bytes (w := W.drew) y0
  have m1 := ld_bytes (w := W.drew) y1
  clear c0 c1 f1 e0 y0 y1
  conv => arg 2; whnf
  refine wp_region_still_tail 35 (by kernel_rfl) (by kernel_rfl) ?_
  simp only [List.take_succ_cons, List.take_zero, List.drop_succ_cons, List.drop_zero]
  change wpStill _ _ (World.drew W) (fun a' => wpList _ _ _ _ a' (World.drew W)) _ _
  generalize World.drew W = V at *
  refine still_val (v := .pointer (some ⟨gn, 0, none⟩)) (by kernel_rfl) (by kernel_rfl) ?_
  refine still_val (v := .pointer (some ⟨gn, 0, none⟩)) (by kernel_rfl) (by kernel_rfl) ?_
  refine still_val (v := .pointer (some ⟨gn, 0, none⟩)) (by kernel_rfl) (by kernel_rfl) ?_
  refine still_val (v := .pointer (some ⟨gn, 1, none⟩)) (by kernel_rfl) (by kernel_rfl) ?_
  refine still_val (v := .bool false) (by kernel_rfl) (ld_op rfl (by kernel_rfl) l1) ?_
  refine still_val (v := .bool false) (by kernel_rfl) (by kernel_rfl) ?_
  refine still_val (v := .pointer (some ⟨gn, 0, none⟩)) (by kernel_rfl) (by kernel_rfl) ?_
  refine still_val (v := .pointer (some ⟨gn, 0, none⟩)) (by kernel_rfl) (by kernel_rfl) ?_
  refine still_val (v := .pointer (some ⟨gn, 0, none⟩)) (by kernel_rfl) (by kernel_rfl) ?_
  refine still_val (v := .slice (some ⟨gs, 0, none⟩) 2 cap) (by kernel_rfl) (ld_op rfl (by kernel_rfl) l0) ?_
  refine still_val (v := .pointer (some ⟨gs, 3, none⟩)) (by kernel_rfl) (by kernel_rfl) ?_
  refine still_fn (v := .bool false) (by kernel_rfl) (by kernel_rfl) hd ?_
  refine still_val (v := .bool true) (by kernel_rfl) (by kernel_rfl) ?_
  refine still_val (v := .bool true) (by kernel_rfl) (by kernel_rfl) ?_
  refine still_val (v := .pointer (some ⟨gn, 0, none⟩)) (by kernel_rfl) (by kernel_rfl) ?_
  refine still_val (v := .pointer (some ⟨gn, 0, none⟩)) (by kernel_rfl) (by kernel_rfl) ?_
  refine still_val (v := .pointer (some ⟨gn, 0, none⟩)) (by kernel_rfl) (by kernel_rfl) ?_
  refine still_val (v := .slice (some ⟨gs, 0, none⟩) 2 cap) (by kernel_rfl) (ld_op rfl (by kernel_rfl) l0) ?_
  refine still_val (v := .pointer (some ⟨gs, 0, none⟩)) (by kernel_rfl) (by kernel_rfl) ?_
  refine still_val (v := .pointer (some ⟨gs, 0, none⟩)) (by kernel_rfl) (by kernel_rfl) ?_
  refine still_val (v := .slice a0 n0 q0) (by kernel_rfl) (ld_op rfl (by kernel_rfl) m0) ?_
  refine still_val (v := .int .i64 (n0 : Int)) (by kernel_rfl) (by kernel_rfl) ?_
  refine still_val (v := .pointer (some ⟨gn, 0, none⟩)) (by kernel_rfl) (by kernel_rfl) ?_
  refine still_val (v := .pointer (some ⟨gn, 0, none⟩)) (by kernel_rfl) (by kernel_rfl) ?_
  refine still_val (v := .pointer (some ⟨gn, 0, none⟩)) (by kernel_rfl) (by kernel_rfl) ?_
  refine still_val (v := .slice (some ⟨gs, 0, none⟩) 2 cap) (by kernel_rfl) (ld_op rfl (by kernel_rfl) l0) ?_
  refine still_val (v := .pointer (some ⟨gs, 3, none⟩)) (by kernel_rfl) (by kernel_rfl) ?_
  refine still_val (v := .pointer (some ⟨gs, 3, none⟩)) (by kernel_rfl) (by kernel_rfl) ?_
  refine still_val (v := .slice a1 n1 q1) (by kernel_rfl) (ld_op rfl (by kernel_rfl) m1) ?_
  refine still_val (v := .int .i64 (n1 : Int)) (by kernel_rfl) (by kernel_rfl) ?_
  refine still_val (v := .bool ((n0 : Int) != (n1 : Int))) (by kernel_rfl) (by kernel_rfl) ?_
  refine still_val (v := .bool ((n0 : Int) != (n1 : Int))) (by kernel_rfl) (by kernel_rfl) ?_
  refine still_val (v := .bool ((n0 : Int) != (n1 : Int))) (by kernel_rfl) (by kernel_rfl) ?_
  refine still_val (v := .pointer (some ⟨gn, 0, none⟩)) (by kernel_rfl) (by kernel_rfl) ?_
  refine still_val (v := .pointer (some ⟨gn, 1, none⟩)) (by kernel_rfl) (by kernel_rfl) ?_
  refine still_end ⟨#[.pointer (some ⟨gn, 0, none⟩), u 1, u 2, s3, s4, s5, u 6, u 7, u 8, u 9, u 10, u 11, u 12, u 13, u 14, u 15, u 16, s17, u 18, u 19, u 20, u 21, u 22, u 23, u 24, u 25, u 26, u 27, u 28, u 29, u 30, u 31, u 32, u 33, u 34, u 35, u 36, u 37, u 38, u 39, u 40, u 41, u 42, u 43, u 44, u 45, u 46, .pointer (some ⟨gn, 0, none⟩), .pointer (some ⟨gn, 0, none⟩), .pointer (some ⟨gn, 0, none⟩), .pointer (some ⟨gn, 1, none⟩), .bool false, .bool false, .pointer (some ⟨gn, 0, none⟩), .pointer (some ⟨gn, 0, none⟩), .pointer (some ⟨gn, 0, none⟩), .slice (some ⟨gs, 0, none⟩) 2 cap, .pointer (some ⟨gs, 3, none⟩), .bool false, .bool true, .bool true, .pointer (some ⟨gn, 0, none⟩), .pointer (some ⟨gn, 0, none⟩), .pointer (some ⟨gn, 0, none⟩), .slice (some ⟨gs, 0, none⟩) 2 cap, .pointer (some ⟨gs, 0, none⟩), .pointer (some ⟨gs, 0, none⟩), .slice a0 n0 q0, .int .i64 (n0 : Int), .pointer (some ⟨gn, 0, none⟩), .pointer (some ⟨gn, 0, none⟩), .pointer (some ⟨gn, 0, none⟩), .slice (some ⟨gs, 0, none⟩) 2 cap, .pointer (some ⟨gs, 3, none⟩), .pointer (some ⟨gs, 3, none⟩), .slice a1 n1 q1, .int .i64 (n1 : Int), .bool ((n0 : Int) != (n1 : Int)), .bool ((n0 : Int) != (n1 : Int)), .bool ((n0 : Int) != (n1 : Int)), .pointer (some ⟨gn, 0, none⟩), .pointer (some ⟨gn, 1, none⟩), u 82, u 83, u 84, u 85, u 86, u 87, u 88, u 89, u 90, u 91, u 92, u 93, u 94, u 95, u 96, u 97, u 98, u 99, u 100, u 101, u 102, u 103, u 104, u 105, u 106, u 107, u 108, u 109, u 110, u 111, u 112, u 113, u 114, u 115, u 116, u 117, u 118, u 119, u 120, u 121, u 122, u 123, u 124, u 125, u 126, u 127, u 128, u 129, u 130, u 131, u 132, u 133, u 134, u 135, u 136, u 137, u 138, u 139, u 140, u 141, u 142, u 143, u 144, u 145, u 146, u 147, u 148, u 149, u 150, u 151, u 152, u 153, u 154, u 155, u 156, u 157, u 158, u 159, u 160, u 161, u 162, u 163, u 164, u 165, u 166, u 167, u 168, u 169, u 170, u 171, u 172], []⟩ (by kernel_rfl) ?_
  show wpList _ _ _ _ _ _
  (repeat (first | go_values | go_skip | go_guarded | go_step | go_upon))
  exact ⟨rfl, ⟨rfl, rfl, rfl, rfl, rfl, rfl, rfl⟩, rfl⟩

end Go.Proofs.YtkkliejgmgmebaaGreatDoor
