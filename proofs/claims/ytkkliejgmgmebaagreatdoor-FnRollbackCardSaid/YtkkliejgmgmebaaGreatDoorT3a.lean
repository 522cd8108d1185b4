/-
  laws.rolled: does a result answer as the reference says? (printed by gen_t3a.py)
-/
import Derived.Test.YtkkliejgmgmebaaGreatDoorT2
import Derived.Deep.QuietTactic
namespace Go.Proofs.YtkkliejgmgmebaaGreatDoor
open Go.RowKit

section
variable {P : Program} {ops : Array Oper} {C : World → Prop} {Q : Act → Prop} {o : Oper} {rest : List Oper} {a : Act} {v : Value}
theorem q_val (hw : Region.wanted o (yielded ops a.tmps) = true) (hr : ∀ w, C w → (execOp a.eval o).run P w = .ok (.value v) w) (h : wpQuiet P ops C Q rest (a.put o.dst v)) : wpQuiet P ops C Q (o :: rest) a :=
  wpQuiet_step fun K hK => by
    rw [if_pos hw]
    refine ⟨v, fun w hw' => ?_, hK _ h⟩
    unfold Oper.quietAt
    rw [hr w hw']
    exact ⟨rfl, rfl⟩
theorem q_no (hw : Region.wanted o (yielded ops a.tmps) = false) (h : wpQuiet P ops C Q rest (a.put o.dst undef)) : wpQuiet P ops C Q (o :: rest) a :=
  wpQuiet_step fun K hK => by
    rw [if_neg (by rw [hw]; decide)]
    exact hK _ h
theorem q_fn {f : FuncId} {args : Array Value} (hw : Region.wanted o (yielded ops a.tmps) = true) (hr : ∀ w, (execOp a.eval o).run P w = .ok (.enter f args) w) (hc : ∀ w, C w → Calls P f args w fun e w' => e = .returned v ∧ C w') (h : wpQuiet P ops C Q rest (a.put o.dst v)) : wpQuiet P ops C Q (o :: rest) a :=
  wpQuiet_step fun K hK => by
    rw [if_pos hw]
    refine ⟨v, fun w hw' => ?_, hK _ h⟩
    unfold Oper.quietAt
    rw [hr w]
    exact ⟨rfl, hc w hw'⟩
theorem q_end (a' : Act) (e : a = a') (h : Q a') : wpQuiet P ops C Q [] a := wpQuiet_nil (by rw [e]; exact h)
end

theorem ld_int {w : World} {p : Addr} {v : Int} (h : w.cell? p = some (.int .i64 v)) : (Instr.loadAt 3 (.pointer (some p))).run Tryz.prog w = .ok (.int .i64 v) w := by go_simp
theorem ld_int64 {w : World} {p : Addr} {v : Int} (h : w.cell? p = some (.int .i64 v)) : (Instr.loadAt 2 (.pointer (some p))).run Tryz.prog w = .ok (.int .i64 v) w := by go_simp
theorem ld_call {w : World} {b : Nat} {x y z : Int} {d : Option Addr} {n c : Nat} (h0 : w.cell? ⟨b, 0, none⟩ = some (.int .i64 x)) (h1 : w.cell? ⟨b, 1, none⟩ = some (.int .i64 y)) (h2 : w.cell? ⟨b, 2, none⟩ = some (.int .i64 z)) (h3 : w.cell? ⟨b, 3, none⟩ = some (.slice d n c)) : (Instr.loadAt 47 (.pointer (some ⟨b, 0, none⟩))).run Tryz.prog w = .ok (.agg #[.int .i64 x, .int .i64 y, .int .i64 z, .slice d n c]) w := by go_simp
theorem ld_res {w : World} {b : Nat} {x y z : Int} {d : Option Addr} {n c : Nat} (h0 : w.cell? ⟨b, 0, none⟩ = some (.int .i64 x)) (h1 : w.cell? ⟨b, 1, none⟩ = some (.slice d n c)) (h2 : w.cell? ⟨b, 2, none⟩ = some (.int .i64 y)) (h3 : w.cell? ⟨b, 3, none⟩ = some (.int .i64 z)) : (Instr.loadAt 60 (.pointer (some ⟨b, 0, none⟩))).run Tryz.prog w = .ok (.agg #[.int .i64 x, .slice d n c, .int .i64 y, .int .i64 z]) w := by go_simp

attribute [local irreducible] wpQuiet

noncomputable def reg8 : Code := ((Tryz.f7.body.bind (regionOf 8)).getD .skip)
structure frmVp (s1 s2 s7 s8 s9 s10 s15 s16 s17 : Value) (a : Act) : Prop where
  df : a.defers = []
  sz : a.tmps.size = 90
  h1 : a.tmps.getD 1 undef = s1
  h2 : a.tmps.getD 2 undef = s2
  h7 : a.tmps.getD 7 undef = s7
  h8 : a.tmps.getD 8 undef = s8
  h9 : a.tmps.getD 9 undef = s9
  h10 : a.tmps.getD 10 undef = s10
  h15 : a.tmps.getD 15 undef = s15
  h16 : a.tmps.getD 16 undef = s16
  h17 : a.tmps.getD 17 undef = s17
set_option maxRecDepth 100000 in
theorem frmV {s1 s2 s7 s8 s9 s10 s15 s16 s17 : Value} {a : Act} (h : frmVp s1 s2 s7 s8 s9 s10 s15 s16 s17 a) : ∃ u : Nat → Value, a = ⟨#[u 0, s1, s2, u 3, u 4, u 5, u 6, s7, s8, s9, s10, u 11, u 12, u 13, u 14, s15, s16, s17, u 18, u 19, u 20, u 21, u 22, u 23, u 24, u 25, u 26, u 27, u 28, u 29, u 30, u 31, u 32, u 33, u 34, u 35, u 36, u 37, u 38, u 39, u 40, u 41, u 42, u 43, u 44, u 45, u 46, u 47, u 48, u 49, u 50, u 51, u 52, u 53, u 54, u 55, u 56, u 57, u 58, u 59, u 60, u 61, u 62, u 63, u 64, u 65, u 66, u 67, u 68, u 69, u 70, u 71, u 72, u 73, u 74, u 75, u 76, u 77, u 78, u 79, u 80, u 81, u 82, u 83, u 84, u 85, u 86, u 87, u 88, u 89], []⟩ := by
  obtain ⟨F, df⟩ := a
  obtain ⟨rfl, hs, rfl, rfl, rfl, rfl, rfl, rfl, rfl, rfl, rfl⟩ := h
  refine ⟨fun i => F.getD i undef, ?_⟩
  have e := open_frame F
  rw [hs] at e
  exact congrArg (Act.mk · []) e
structure frmXp (s1 s2 s7 s8 s9 s10 s15 s16 s17 s61 : Value) (a : Act) : Prop where
  df : a.defers = []
  sz : a.tmps.size = 90
  h1 : a.tmps.getD 1 undef = s1
  h2 : a.tmps.getD 2 undef = s2
  h7 : a.tmps.getD 7 undef = s7
  h8 : a.tmps.getD 8 undef = s8
  h9 : a.tmps.getD 9 undef = s9
  h10 : a.tmps.getD 10 undef = s10
  h15 : a.tmps.getD 15 undef = s15
  h16 : a.tmps.getD 16 undef = s16
  h17 : a.tmps.getD 17 undef = s17
  h61 : a.tmps.getD 61 undef = s61
set_option maxRecDepth 100000 in
theorem frmX {s1 s2 s7 s8 s9 s10 s15 s16 s17 s61 : Value} {a : Act} (h : frmXp s1 s2 s7 s8 s9 s10 s15 s16 s17 s61 a) : ∃ u : Nat → Value, a = ⟨#[u 0, s1, s2, u 3, u 4, u 5, u 6, s7, s8, s9, s10, u 11, u 12, u 13, u 14, s15, s16, s17, u 18, u 19, u 20, u 21, u 22, u 23, u 24, u 25, u 26, u 27, u 28, u 29, u 30, u 31, u 32, u 33, u 34, u 35, u 36, u 37, u 38, u 39, u 40, u 41, u 42, u 43, u 44, u 45, u 46, u 47, u 48, u 49, u 50, u 51, u 52, u 53, u 54, u 55, u 56, u 57, u 58, u 59, u 60, s61, u 62, u 63, u 64, u 65, u 66, u 67, u 68, u 69, u 70, u 71, u 72, u 73, u 74, u 75, u 76, u 77, u 78, u 79, u 80, u 81, u 82, u 83, u 84, u 85, u 86, u 87, u 88, u 89], []⟩ := by
  obtain ⟨F, df⟩ := a
  obtain ⟨rfl, hs, rfl, rfl, rfl, rfl, rfl, rfl, rfl, rfl, rfl, rfl⟩ := h
  refine ⟨fun i => F.getD i undef, ?_⟩
  have e := open_frame F
  rw [hs] at e
  exact congrArg (Act.mk · []) e

set_option maxRecDepth 100000 in
set_option maxHeartbeats 4000000 in
theorem r8_read (gn gs mt B9 B10 rl xc on oc : Nat) (of sz rn rsz rerr : Int) (xa oa : Option Addr) (v1 v2 v8 v15 v16 v17 : Value) (a : Act) (W : World)
    (s0 : W.cell? ⟨B9, 0, none⟩ = some (.int .i64 1)) (s1 : W.cell? ⟨B9, 1, none⟩ = some (.int .i64 of)) (s2 : W.cell? ⟨B9, 2, none⟩ = some (.int .i64 sz)) (s3 : W.cell? ⟨B9, 3, none⟩ = some (.slice oa on oc)) (s4 : W.cell? ⟨B10, 0, none⟩ = some (.int .i64 rn)) (s5 : W.cell? ⟨B10, 1, none⟩ = some (.slice xa rl xc)) (s6 : W.cell? ⟨B10, 2, none⟩ = some (.int .i64 rsz)) (s7 : W.cell? ⟨B10, 3, none⟩ = some (.int .i64 rerr))
    (hT : ∀ V, Below W.heap.size W V → Calls Tryz.prog 13 #[.pointer (some ⟨gn, 0, none⟩)] V fun e w2 => e = .returned (.pointer (some ⟨gs, mt, none⟩)) ∧ Below W.heap.size W w2)
    (hR : ∀ V, Below W.heap.size W V → Calls Tryz.prog 19 #[.agg #[.int .i64 rn, .slice xa rl xc, .int .i64 rsz, .int .i64 rerr], .pointer (some ⟨gs, mt, none⟩), .agg #[.int .i64 1, .int .i64 of, .int .i64 sz, .slice oa on oc], .bool false] V fun e w2 => e = .returned (.bool true) ∧ Below W.heap.size W w2)
    (ha : frmVp v1 v2 (.pointer (some ⟨gn, 0, none⟩)) v8 (.pointer (some ⟨B9, 0, none⟩)) (.pointer (some ⟨B10, 0, none⟩)) v15 v16 v17 a) :
    Code.wp Tryz.prog reg8 (fun e a' w' => e = .normal ∧ frmXp v1 v2 (.pointer (some ⟨gn, 0, none⟩)) v8 (.pointer (some ⟨B9, 0, none⟩)) (.pointer (some ⟨B10, 0, none⟩)) v15 v16 v17 (.bool false) a' ∧ Below W.heap.size W w') a W := by
  obtain ⟨u, rfl⟩ := frmV ha
  clear ha
  have h0 := fun V (hV : Below W.heap.size W V) => (hV.cell (block_lt_of_cell s0)).trans s0
  have h1 := fun V (hV : Below W.heap.size W V) => (hV.cell (block_lt_of_cell s1)).trans s1
  have h2 := fun V (hV : Below W.heap.size W V) => (hV.cell (block_lt_of_cell s2)).trans s2
  have h3 := fun V (hV : Below W.heap.size W V) => (hV.cell (block_lt_of_cell s3)).trans s3
  have h4 := fun V (hV : Below W.heap.size W V) => (hV.cell (block_lt_of_cell s4)).trans s4
  have h5 := fun V (hV : Below W.heap.size W V) => (hV.cell (block_lt_of_cell s5)).trans s5
  have h6 := fun V (hV : Below W.heap.size W V) => (hV.cell (block_lt_of_cell s6)).trans s6
  have h7 := fun V (hV : Below W.heap.size W V) => (hV.cell (block_lt_of_cell s7)).trans s7
  clear s0 s1 s2 s3 s4 s5 s6 s7
  conv => arg 2; whnf
  refine wp_region_quiet (C := fun V => Below W.heap.size W V) (by kernel_rfl) (by kernel_rfl) ⟨rfl, rfl, rfl, Nat.le_refl _, fun _ _ => rfl⟩ ?_
  simp only
  refine q_val (v := .pointer (some ⟨B9, 0, none⟩)) (by kernel_rfl) (fun w hw => by kernel_rfl) ?_
  refine q_val (v := .int .i64 1) (by kernel_rfl) (fun w hw => ld_op rfl (by kernel_rfl) (ld_int (h0 w hw))) ?_
  refine q_val (v := .bool true) (by kernel_rfl) (fun w hw => by kernel_rfl) ?_
  refine q_val (v := .bool true) (by kernel_rfl) (fun w hw => by kernel_rfl) ?_
  refine q_val (v := .agg #[.int .i64 rn, .slice xa rl xc, .int .i64 rsz, .int .i64 rerr]) (by kernel_rfl) (fun w hw => ld_op rfl (by kernel_rfl) (ld_res (h4 w hw) (h5 w hw) (h6 w hw) (h7 w hw))) ?_
  refine q_val (v := .pointer (some ⟨gn, 0, none⟩)) (by kernel_rfl) (fun w hw => by kernel_rfl) ?_
  refine q_fn (v := .pointer (some ⟨gs, mt, none⟩)) (by kernel_rfl) (fun w => by kernel_rfl) hT ?_
  refine q_val (v := .agg #[.int .i64 1, .int .i64 of, .int .i64 sz, .slice oa on oc]) (by kernel_rfl) (fun w hw => ld_op rfl (by kernel_rfl) (ld_call (h0 w hw) (h1 w hw) (h2 w hw) (h3 w hw))) ?_
  refine q_fn (v := .bool true) (by kernel_rfl) (fun w => by kernel_rfl) hR ?_
  refine q_val (v := .bool false) (by kernel_rfl) (fun w hw => by kernel_rfl) ?_
  refine q_val (v := .bool false) (by kernel_rfl) (fun w hw => by kernel_rfl) ?_
  refine q_val (v := .bool false) (by kernel_rfl) (fun w hw => by kernel_rfl) ?_
  refine q_val (v := .pointer (some ⟨B9, 0, none⟩)) (by kernel_rfl) (fun w hw => by kernel_rfl) ?_
  refine q_val (v := .int .i64 1) (by kernel_rfl) (fun w hw => ld_op rfl (by kernel_rfl) (ld_int (h0 w hw))) ?_
  refine q_val (v := .bool false) (by kernel_rfl) (fun w hw => by kernel_rfl) ?_
  refine q_val (v := .bool false) (by kernel_rfl) (fun w hw => by kernel_rfl) ?_
  refine q_no (by kernel_rfl) ?_
  refine q_no (by kernel_rfl) ?_
  refine q_no (by kernel_rfl) ?_
  refine q_no (by kernel_rfl) ?_
  refine q_no (by kernel_rfl) ?_
  refine q_no (by kernel_rfl) ?_
  refine q_no (by kernel_rfl) ?_
  refine q_no (by kernel_rfl) ?_
  refine q_no (by kernel_rfl) ?_
  refine q_no (by kernel_rfl) ?_
  refine q_no (by kernel_rfl) ?_
  refine q_no (by kernel_rfl) ?_
  refine q_no (by kernel_rfl) ?_
  refine q_no (by kernel_rfl) ?_
  refine q_val (v := .bool false) (by kernel_rfl) (fun w hw => by kernel_rfl) ?_
  refine q_val (v := .bool false) (by kernel_rfl) (fun w hw => by kernel_rfl) ?_
  refine q_end ⟨#[u 0, v1, v2, u 3, u 4, u 5, u 6, .pointer (some ⟨gn, 0, none⟩), v8, .pointer (some ⟨B9, 0, none⟩), .pointer (some ⟨B10, 0, none⟩), u 11, u 12, u 13, u 14, v15, v16, v17, u 18, u 19, u 20, u 21, u 22, u 23, u 24, u 25, u 26, u 27, u 28, u 29, .pointer (some ⟨B9, 0, none⟩), .int .i64 1, .bool true, .bool true, .agg #[.int .i64 rn, .slice xa rl xc, .int .i64 rsz, .int .i64 rerr], .pointer (some ⟨gn, 0, none⟩), .pointer (some ⟨gs, mt, none⟩), .agg #[.int .i64 1, .int .i64 of, .int .i64 sz, .slice oa on oc], .bool true, .bool false, .bool false, .bool false, .pointer (some ⟨B9, 0, none⟩), .int .i64 1, .bool false, .bool false, undef, undef, undef, undef, undef, undef, undef, undef, undef, undef, undef, undef, undef, undef, .bool false, .bool false, u 62, u 63, u 64, u 65, u 66, u 67, u 68, u 69, u 70, u 71, u 72, u 73, u 74, u 75, u 76, u 77, u 78, u 79, u 80, u 81, u 82, u 83, u 84, u 85, u 86, u 87, u 88, u 89], []⟩ (by kernel_rfl) ?_
  intro w' hw'
  exact ⟨trivial, ⟨rfl, rfl, rfl, rfl, rfl, rfl, rfl, rfl, rfl, rfl, rfl, rfl⟩, hw'⟩

set_option maxRecDepth 100000 in
set_option maxHeartbeats 4000000 in
theorem r8_size (gn gs mt B9 B10 lt cd : Nat) (ad : Option Addr) (v1 v2 v8 v15 v16 v17 : Value) (a : Act) (W : World)
    (s0 : W.cell? ⟨B9, 0, none⟩ = some (.int .i64 4)) (s6 : W.cell? ⟨B10, 2, none⟩ = some (.int .i64 (lt : Int))) (s7 : W.cell? ⟨B10, 3, none⟩ = some (.int .i64 0)) (s8 : W.cell? ⟨gs, mt, none⟩ = some (.slice ad lt cd))
    (hT : ∀ V, Below W.heap.size W V → Calls Tryz.prog 13 #[.pointer (some ⟨gn, 0, none⟩)] V fun e w2 => e = .returned (.pointer (some ⟨gs, mt, none⟩)) ∧ Below W.heap.size W w2)
    (ha : frmVp v1 v2 (.pointer (some ⟨gn, 0, none⟩)) v8 (.pointer (some ⟨B9, 0, none⟩)) (.pointer (some ⟨B10, 0, none⟩)) v15 v16 v17 a) :
    Code.wp Tryz.prog reg8 (fun e a' w' => e = .normal ∧ frmXp v1 v2 (.pointer (some ⟨gn, 0, none⟩)) v8 (.pointer (some ⟨B9, 0, none⟩)) (.pointer (some ⟨B10, 0, none⟩)) v15 v16 v17 (.bool false) a' ∧ Below W.heap.size W w') a W := by
  obtain ⟨u, rfl⟩ := frmV ha
  clear ha
  have h0 := fun V (hV : Below W.heap.size W V) => (hV.cell (block_lt_of_cell s0)).trans s0
  have h6 := fun V (hV : Below W.heap.size W V) => (hV.cell (block_lt_of_cell s6)).trans s6
  have h7 := fun V (hV : Below W.heap.size W V) => (hV.cell (block_lt_of_cell s7)).trans s7
  have h8 := fun V (hV : Below W.heap.size W V) => (hV.cell (block_lt_of_cell s8)).trans s8
  clear s0 s6 s7 s8
  conv => arg 2; whnf
  refine wp_region_quiet (C := fun V => Below W.heap.size W V) (by kernel_rfl) (by kernel_rfl) ⟨rfl, rfl, rfl, Nat.le_refl _, fun _ _ => rfl⟩ ?_
  simp only
  refine q_val (v := .pointer (some ⟨B9, 0, none⟩)) (by kernel_rfl) (fun w hw => by kernel_rfl) ?_
  refine q_val (v := .int .i64 4) (by kernel_rfl) (fun w hw => ld_op rfl (by kernel_rfl) (ld_int (h0 w hw))) ?_
  refine q_val (v := .bool false) (by kernel_rfl) (fun w hw => by kernel_rfl) ?_
  refine q_val (v := .bool false) (by kernel_rfl) (fun w hw => by kernel_rfl) ?_
  refine q_no (by kernel_rfl) ?_
  refine q_no (by kernel_rfl) ?_
  refine q_no (by kernel_rfl) ?_
  refine q_no (by kernel_rfl) ?_
  refine q_no (by kernel_rfl) ?_
  refine q_no (by kernel_rfl) ?_
  refine q_val (v := .bool false) (by kernel_rfl) (fun w hw => by kernel_rfl) ?_
  refine q_val (v := .bool false) (by kernel_rfl) (fun w hw => by kernel_rfl) ?_
  refine q_val (v := .pointer (some ⟨B9, 0, none⟩)) (by kernel_rfl) (fun w hw => by kernel_rfl) ?_
  refine q_val (v := .int .i64 4) (by kernel_rfl) (fun w hw => ld_op rfl (by kernel_rfl) (ld_int (h0 w hw))) ?_
  refine q_val (v := .bool true) (by kernel_rfl) (fun w hw => by kernel_rfl) ?_
  refine q_val (v := .bool true) (by kernel_rfl) (fun w hw => by kernel_rfl) ?_
  refine q_val (v := .pointer (some ⟨B10, 2, none⟩)) (by kernel_rfl) (fun w hw => by kernel_rfl) ?_
  refine q_val (v := .int .i64 (lt : Int)) (by kernel_rfl) (fun w hw => ld_op rfl (by kernel_rfl) (ld_int64 (h6 w hw))) ?_
  refine q_val (v := .pointer (some ⟨gn, 0, none⟩)) (by kernel_rfl) (fun w hw => by kernel_rfl) ?_
  refine q_fn (v := .pointer (some ⟨gs, mt, none⟩)) (by kernel_rfl) (fun w => by kernel_rfl) hT ?_
  refine q_val (v := .pointer (some ⟨gs, mt, none⟩)) (by kernel_rfl) (fun w hw => by kernel_rfl) ?_
  refine q_val (v := .pointer (some ⟨gs, mt, none⟩)) (by kernel_rfl) (fun w hw => by kernel_rfl) ?_
  refine q_val (v := .slice ad lt cd) (by kernel_rfl) (fun w hw => ld_op rfl (by kernel_rfl) (ld_bytes (h8 w hw))) ?_
  refine q_val (v := .int .i64 (lt : Int)) (by kernel_rfl) (fun w hw => by kernel_rfl) ?_
  refine q_val (v := .bool false) (by kernel_rfl) (fun w hw => Eq.trans (b := .ok (.value (.bool ((lt : Int) != (lt : Int)))) w) (by kernel_rfl) (by rw [bne_self_eq_false])) ?_
  refine q_val (v := .bool false) (by kernel_rfl) (fun w hw => by kernel_rfl) ?_
  refine q_val (v := .pointer (some ⟨B10, 3, none⟩)) (by kernel_rfl) (fun w hw => by kernel_rfl) ?_
  refine q_val (v := .int .i64 0) (by kernel_rfl) (fun w hw => ld_op rfl (by kernel_rfl) (ld_int (h7 w hw))) ?_
  refine q_val (v := .bool false) (by kernel_rfl) (fun w hw => by kernel_rfl) ?_
  refine q_val (v := .bool false) (by kernel_rfl) (fun w hw => by kernel_rfl) ?_
  refine q_val (v := .bool false) (by kernel_rfl) (fun w hw => by kernel_rfl) ?_
  refine q_val (v := .bool false) (by kernel_rfl) (fun w hw => by kernel_rfl) ?_
  refine q_end ⟨#[u 0, v1, v2, u 3, u 4, u 5, u 6, .pointer (some ⟨gn, 0, none⟩), v8, .pointer (some ⟨B9, 0, none⟩), .pointer (some ⟨B10, 0, none⟩), u 11, u 12, u 13, u 14, v15, v16, v17, u 18, u 19, u 20, u 21, u 22, u 23, u 24, u 25, u 26, u 27, u 28, u 29, .pointer (some ⟨B9, 0, none⟩), .int .i64 4, .bool false, .bool false, undef, undef, undef, undef, undef, undef, .bool false, .bool false, .pointer (some ⟨B9, 0, none⟩), .int .i64 4, .bool true, .bool true, .pointer (some ⟨B10, 2, none⟩), .int .i64 (lt : Int), .pointer (some ⟨gn, 0, none⟩), .pointer (some ⟨gs, mt, none⟩), .pointer (some ⟨gs, mt, none⟩), .pointer (some ⟨gs, mt, none⟩), .slice ad lt cd, .int .i64 (lt : Int), .bool false, .bool false, .pointer (some ⟨B10, 3, none⟩), .int .i64 0, .bool false, .bool false, .bool false, .bool false, u 62, u 63, u 64, u 65, u 66, u 67, u 68, u 69, u 70, u 71, u 72, u 73, u 74, u 75, u 76, u 77, u 78, u 79, u 80, u 81, u 82, u 83, u 84, u 85, u 86, u 87, u 88, u 89], []⟩ (by kernel_rfl) ?_
  intro w' hw'
  exact ⟨trivial, ⟨rfl, rfl, rfl, rfl, rfl, rfl, rfl, rfl, rfl, rfl, rfl, rfl⟩, hw'⟩

set_option maxRecDepth 100000 in
set_option maxHeartbeats 4000000 in
theorem r8_other (B9 B10 : Nat) (v7 : Value) (kd : Int) (v1 v2 v8 v15 v16 v17 : Value) (a : Act) (W : World)
    (s0 : W.cell? ⟨B9, 0, none⟩ = some (.int .i64 kd)) (k1 : (kd == (1 : Int)) = false) (k4 : (kd == (4 : Int)) = false)
    (ha : frmVp v1 v2 (v7) v8 (.pointer (some ⟨B9, 0, none⟩)) (.pointer (some ⟨B10, 0, none⟩)) v15 v16 v17 a) :
    Code.wp Tryz.prog reg8 (fun e a' w' => e = .normal ∧ frmXp v1 v2 (v7) v8 (.pointer (some ⟨B9, 0, none⟩)) (.pointer (some ⟨B10, 0, none⟩)) v15 v16 v17 (.bool false) a' ∧ Below W.heap.size W w') a W := by
  obtain ⟨u, rfl⟩ := frmV ha
  clear ha
  have h0 := fun V (hV : Below W.heap.size W V) => (hV.cell (block_lt_of_cell s0)).trans s0
  clear s0
  conv => arg 2; whnf
  refine wp_region_quiet (C := fun V => Below W.heap.size W V) (by kernel_rfl) (by kernel_rfl) ⟨rfl, rfl, rfl, Nat.le_refl _, fun _ _ => rfl⟩ ?_
  simp only
  refine q_val (v := .pointer (some ⟨B9, 0, none⟩)) (by kernel_rfl) (fun w hw => by kernel_rfl) ?_
  refine q_val (v := .int .i64 kd) (by kernel_rfl) (fun w hw => ld_op rfl (by kernel_rfl) (ld_int (h0 w hw))) ?_
  refine q_val (v := .bool false) (by kernel_rfl) (fun w hw => Eq.trans (b := .ok (.value (.bool (kd == (1 : Int)))) w) (by kernel_rfl) (by rw [k1])) ?_
  refine q_val (v := .bool false) (by kernel_rfl) (fun w hw => by kernel_rfl) ?_
  refine q_no (by kernel_rfl) ?_
  refine q_no (by kernel_rfl) ?_
  refine q_no (by kernel_rfl) ?_
  refine q_no (by kernel_rfl) ?_
  refine q_no (by kernel_rfl) ?_
  refine q_no (by kernel_rfl) ?_
  refine q_val (v := .bool false) (by kernel_rfl) (fun w hw => by kernel_rfl) ?_
  refine q_val (v := .bool false) (by kernel_rfl) (fun w hw => by kernel_rfl) ?_
  refine q_val (v := .pointer (some ⟨B9, 0, none⟩)) (by kernel_rfl) (fun w hw => by kernel_rfl) ?_
  refine q_val (v := .int .i64 kd) (by kernel_rfl) (fun w hw => ld_op rfl (by kernel_rfl) (ld_int (h0 w hw))) ?_
  refine q_val (v := .bool false) (by kernel_rfl) (fun w hw => Eq.trans (b := .ok (.value (.bool (kd == (4 : Int)))) w) (by kernel_rfl) (by rw [k4])) ?_
  refine q_val (v := .bool false) (by kernel_rfl) (fun w hw => by kernel_rfl) ?_
  refine q_no (by kernel_rfl) ?_
  refine q_no (by kernel_rfl) ?_
  refine q_no (by kernel_rfl) ?_
  refine q_no (by kernel_rfl) ?_
  refine q_no (by kernel_rfl) ?_
  refine q_no (by kernel_rfl) ?_
  refine q_no (by kernel_rfl) ?_
  refine q_no (by kernel_rfl) ?_
  refine q_no (by kernel_rfl) ?_
  refine q_no (by kernel_rfl) ?_
  refine q_no (by kernel_rfl) ?_
  refine q_no (by kernel_rfl) ?_
  refine q_no (by kernel_rfl) ?_
  refine q_no (by kernel_rfl) ?_
  refine q_val (v := .bool false) (by kernel_rfl) (fun w hw => by kernel_rfl) ?_
  refine q_val (v := .bool false) (by kernel_rfl) (fun w hw => by kernel_rfl) ?_
  refine q_end ⟨#[u 0, v1, v2, u 3, u 4, u 5, u 6, v7, v8, .pointer (some ⟨B9, 0, none⟩), .pointer (some ⟨B10, 0, none⟩), u 11, u 12, u 13, u 14, v15, v16, v17, u 18, u 19, u 20, u 21, u 22, u 23, u 24, u 25, u 26, u 27, u 28, u 29, .pointer (some ⟨B9, 0, none⟩), .int .i64 kd, .bool false, .bool false, undef, undef, undef, undef, undef, undef, .bool false, .bool false, .pointer (some ⟨B9, 0, none⟩), .int .i64 kd, .bool false, .bool false, undef, undef, undef, undef, undef, undef, undef, undef, undef, undef, undef, undef, undef, undef, .bool false, .bool false, u 62, u 63, u 64, u 65, u 66, u 67, u 68, u 69, u 70, u 71, u 72, u 73, u 74, u 75, u 76, u 77, u 78, u 79, u 80, u 81, u 82, u 83, u 84, u 85, u 86, u 87, u 88, u 89], []⟩ (by kernel_rfl) ?_
  intro w' hw'
  exact ⟨trivial, ⟨rfl, rfl, rfl, rfl, rfl, rfl, rfl, rfl, rfl, rfl, rfl, rfl⟩, hw'⟩

end Go.Proofs.YtkkliejgmgmebaaGreatDoor
