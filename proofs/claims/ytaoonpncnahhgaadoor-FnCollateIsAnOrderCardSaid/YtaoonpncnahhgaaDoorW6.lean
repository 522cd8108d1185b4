/-
  The walk of the reference's Compare, two bools; and all its ways together.
-/
import Derived.Test.YtaoonpncnahhgaaDoorW5
namespace Go.Proofs.YtaoonpncnahhgaaDoor
open Go.RowKit

/-- one operation of a lexical walk, its value named -/
theorem wpQuiet_val {P : Program} {ops : Array Oper} {C : World → Prop} {Q : Act → Prop} {a : Act} {o : Oper} {rest : List Oper} (hg : o.guard = none) (v : Value)
    (h1 : ∀ w, C w → o.quietAt P a C w v) (h2 : wpQuiet P ops C Q rest (a.put o.dst v)) : wpQuiet P ops C Q (o :: rest) a := by
  unfold wpQuiet
  rw [if_pos (by simp [Region.wanted, hg])]
  exact ⟨v, h1, h2⟩

set_option maxHeartbeats 1000000 in
theorem cmp_bool (k i k' i' : Int) (n n' : Nat) (u a b bn bc u' a' b' bn' bc' : Nat) (ba ba' : Option Addr) (w : World) (h : classOf k = 1) (h2 : classOf k' = 1)
    (r1 : IntKind.u64.wrap i = (n : Int)) (r2 : IntKind.u64.wrap i' = (n' : Int)) (hn : n < 18446744073709551616) (hn' : n' < 18446744073709551616)
    (s1 t1 : Bool) (s2 t2 : Nat) (s3 t3 : Int) (c : Int) (m1 : s2 < 18446744073709551616) (m2 : t2 < 18446744073709551616)
    (HP : Hid (∀ w : World, Calls Tryd.prog 27 #[numV false n 0] w fun e w' => e = .returned (numV s1 s2 s3) ∧ Below w.heap.size w w'))
    (HR : Hid (∀ w : World, Calls Tryd.prog 27 #[numV false n' 0] w fun e w' => e = .returned (numV t1 t2 t3) ∧ Below w.heap.size w w'))
    (hc : lessN ⟨s1, s2, s3⟩ ⟨t1, t2, t3⟩ = c) :
    Calls Tryd.prog 12 #[.agg #[.int .i64 k, .int .i64 i, .int .u64 (u : Int), .int .u64 (a : Int), .int .u64 (b : Int), .slice ba bn bc], .agg #[.int .i64 k', .int .i64 i', .int .u64 (u' : Int), .int .u64 (a' : Int), .int .u64 (b' : Int), .slice ba' bn' bc']] w fun e w' => e = .returned (.int .i64 c) ∧ Below w.heap.size w w' := by
  have H := Lib.hid h
  have H2 := Lib.hid h2
  have HC := Lib.hid hc
  clear h h2 hc
  go_enter Tryd.func12, Tryd.ntmps12
  go_wp2_with fail
  go_quiet ((first | (go_at_call_of 11 (Value.int .i64 k); exact Calls.quiet_of_same (class_eq k 1 H.out _)) | (go_at_call_of 11 (Value.int .i64 k'); exact Calls.quiet_of_same (class_eq k' 1 H2.out _)) ))
  obtain ⟨hB, hz, q1, q2⟩ := world2 w #[.int .i64 k, .int .i64 i, .int .u64 (u : Int), .int .u64 (a : Int), .int .u64 (b : Int), .slice ba bn bc] #[.int .i64 k', .int .i64 i', .int .u64 (u' : Int), .int .u64 (a' : Int), .int .u64 (b' : Int), .slice ba' bn' bc'] 35 35 nq
  generalize (World.drewN _ nq) = W at *
  obtain ⟨e1, f1⟩ := cells_at q1
  obtain ⟨e2, f2⟩ := cells_at q2
  clear H H2
  go_wp2_with fail
  refine wp_region_quiet (C := fun w' => Below W.heap.size W w') (by kernel_rfl) (by kernel_rfl) ⟨rfl, rfl, rfl, Nat.le_refl _, fun _ _ => rfl⟩ ?_
  have cx : ∀ w', Below W.heap.size W w' → (∀ o, w'.cell? ⟨w.heap.size, o, none⟩ = #[Value.int .i64 k, .int .i64 i, .int .u64 (u : Int), .int .u64 (a : Int), .int .u64 (b : Int), .slice ba bn bc][o]?) := fun w' h => (cells_at ((h.block _ (by omega)).trans q1)).1
  have cy : ∀ w', Below W.heap.size W w' → (∀ o, w'.cell? ⟨w.heap.size + 1, o, none⟩ = #[Value.int .i64 k', .int .i64 i', .int .u64 (u' : Int), .int .u64 (a' : Int), .int .u64 (b' : Int), .slice ba' bn' bc'][o]?) := fun w' h => (cells_at ((h.block _ (by omega)).trans q2)).1
  clear e1 f1 e2 f2 q1 q2
  simp only []
  refine wpQuiet_val rfl (.pointer (some ⟨w.heap.size, 1, none⟩)) (fun w' hw' => ?_) ?_
  · simp [Oper.quietAt, Oper.quietUpon, go_sem, cx w' hw', cy w' hw', r1, r2]
  simp only [Act.put, List.setIfInBounds_toArray, List.set_cons_zero, List.set_cons_succ]
  refine wpQuiet_val rfl (.int .i64 i) (fun w' hw' => ?_) ?_
  · simp [Oper.quietAt, Oper.quietUpon, go_sem, cx w' hw', cy w' hw', r1, r2]
  simp only [Act.put, List.setIfInBounds_toArray, List.set_cons_zero, List.set_cons_succ]
  refine wpQuiet_val rfl (.int .u64 (n : Int)) (fun w' hw' => ?_) ?_
  · simp [Oper.quietAt, Oper.quietUpon, go_sem, cx w' hw', cy w' hw', r1, r2]
  simp only [Act.put, List.setIfInBounds_toArray, List.set_cons_zero, List.set_cons_succ]
  refine wpQuiet_val rfl (numV false n 0) (fun w' hw' => ?_) ?_
  · simp [Oper.quietAt, Oper.quietUpon, go_sem, cx w' hw', cy w' hw', r1, r2]
  simp only [Act.put, List.setIfInBounds_toArray, List.set_cons_zero, List.set_cons_succ]
  refine wpQuiet_val rfl (numV s1 s2 s3) (fun w' hw' => ?_) ?_
  · simp only [Oper.quietAt, go_sem]; simp [go_sem, Oper.quietUpon]; exact (HP.out w').mono fun _ _ ⟨g1, g2⟩ => ⟨g1, hw'.trans (g2.mono hw'.size)⟩
  simp only [Act.put, List.setIfInBounds_toArray, List.set_cons_zero, List.set_cons_succ]
  refine wpQuiet_val rfl (.pointer (some ⟨w.heap.size + 1, 1, none⟩)) (fun w' hw' => ?_) ?_
  · simp [Oper.quietAt, Oper.quietUpon, go_sem, cx w' hw', cy w' hw', r1, r2]
  simp only [Act.put, List.setIfInBounds_toArray, List.set_cons_zero, List.set_cons_succ]
  refine wpQuiet_val rfl (.int .i64 i') (fun w' hw' => ?_) ?_
  · simp [Oper.quietAt, Oper.quietUpon, go_sem, cx w' hw', cy w' hw', r1, r2]
  simp only [Act.put, List.setIfInBounds_toArray, List.set_cons_zero, List.set_cons_succ]
  refine wpQuiet_val rfl (.int .u64 (n' : Int)) (fun w' hw' => ?_) ?_
  · simp [Oper.quietAt, Oper.quietUpon, go_sem, cx w' hw', cy w' hw', r1, r2]
  simp only [Act.put, List.setIfInBounds_toArray, List.set_cons_zero, List.set_cons_succ]
  refine wpQuiet_val rfl (numV false n' 0) (fun w' hw' => ?_) ?_
  · simp [Oper.quietAt, Oper.quietUpon, go_sem, cx w' hw', cy w' hw', r1, r2]
  simp only [Act.put, List.setIfInBounds_toArray, List.set_cons_zero, List.set_cons_succ]
  refine wpQuiet_val rfl (numV t1 t2 t3) (fun w' hw' => ?_) ?_
  · simp only [Oper.quietAt, go_sem]; simp [go_sem, Oper.quietUpon]; exact (HR.out w').mono fun _ _ ⟨g1, g2⟩ => ⟨g1, hw'.trans (g2.mono hw'.size)⟩
  simp only [Act.put, List.setIfInBounds_toArray, List.set_cons_zero, List.set_cons_succ]
  refine wpQuiet_val rfl (.int .i64 c) (fun w' hw' => ?_) ?_
  · simp only [Oper.quietAt, go_sem]; simp [go_sem, Oper.quietUpon]; exact ((less_any ⟨s1, s2, s3⟩ ⟨t1, t2, t3⟩ w' m1 m2).mono fun _ _ ⟨g1, g2⟩ => (⟨g1.trans (ret_i HC.out), g2⟩ : _ = Ending.returned (.int .i64 c) ∧ Below w'.heap.size w' _)).mono fun _ _ ⟨g1, g2⟩ => ⟨g1, hw'.trans (g2.mono hw'.size)⟩
  simp only [Act.put, List.setIfInBounds_toArray, List.set_cons_zero, List.set_cons_succ]
  refine wpQuiet_val rfl (.int .i64 c) (fun w' hw' => ?_) ?_
  · simp [Oper.quietAt, Oper.quietUpon, go_sem, cx w' hw', cy w' hw', r1, r2]
  simp only [Act.put, List.setIfInBounds_toArray, List.set_cons_zero, List.set_cons_succ]
  refine wpQuiet_nil fun w' hw' => ?_
  clear cx cy
  go_wp2_with fail
  go_ret
  exact ⟨rfl, hB.trans (hw'.mono (by omega))⟩

theorem u64_wrap (i : Int) : IntKind.u64.wrap i = ((u64 i : Nat) : Int) := by
  rw [IntKind.wrap_u64]; unfold u64; omega
theorem u64_lt (i : Int) : u64 i < 18446744073709551616 := by unfold u64; omega

theorem nrm_m (neg : Bool) (m : Nat) (e : Int) (h : m < 18446744073709551616) : (nrm neg m e).m < 18446744073709551616 := by
  unfold nrm
  split
  · decide
  · rename_i h0
    have hl := Nat.log2_lt (n := m) (k := 64) h0
    have h1 : m.log2 < 64 := hl.2 h
    have hu := Nat.lt_log2_self (n := m)
    have : m * 2 ^ (63 - m.log2) < 2 ^ (m.log2 + 1) * 2 ^ (63 - m.log2) := Nat.mul_lt_mul_of_pos_right hu (Nat.two_pow_pos _)
    rw [← Nat.pow_add, show m.log2 + 1 + (63 - m.log2) = 64 by omega] at this
    exact this
theorem flt_m (x : Nat) : (ofFlt x).1.m < 18446744073709551616 := by
  unfold ofFlt fltOf
  have : x % 4503599627370496 < 4503599627370496 := Nat.mod_lt _ (by decide)
  (repeat' split) <;> first | exact nrm_m _ _ _ (by omega) | (show _ % _ < _; omega)
theorem parts_m (s : Sc) (h : s.wf) : (parts s).1.m < 18446744073709551616 ∧ (parts s).2.1.m < 18446744073709551616 := by
  have := h.i0; have := h.i1; have := h.u1
  unfold parts
  (repeat' split) <;> refine ⟨?_, ?_⟩ <;> first | exact flt_m _ | exact nrm_m _ _ _ (by omega) | exact (by decide : (0 : Nat) < 18446744073709551616)

theorem cmp_any (s t : Sc) (w : World) (hs : s.wf) (ht : t.wf) (rs : rdB w.heap.size w s.ba s.bn s.bytes) (rt : rdB w.heap.size w t.ba t.bn t.bytes) :
    Calls Tryd.prog 12 #[s.v, t.v] w fun e w' => e = .returned (.int .i64 (cmpS s t)) ∧ Below w.heap.size w w' := by
  unfold cmpS
  by_cases h1 : classOf s.kind < classOf t.kind
  · rw [if_pos h1]; exact cmp_lt s t w h1
  rw [if_neg h1]
  by_cases h2 : classOf t.kind < classOf s.kind
  · rw [if_pos h2]; exact cmp_gt s t w h2
  rw [if_neg h2]
  have he : classOf t.kind = classOf s.kind := by omega
  rcases class_tri s.kind with h | h | h | h
  · rw [if_pos h]; exact cmp_nil s t w h (by omega)
  · rw [if_neg (by omega), if_pos h]
    exact cmp_bool s.kind s.int t.kind t.int (u64 s.int) (u64 t.int) s.uint s.a s.b s.bn s.bc t.uint t.a t.b t.bn t.bc s.ba t.ba w h (by omega) (u64_wrap _) (u64_wrap _) (u64_lt _) (u64_lt _)
      _ _ _ _ _ _ _ (nrm_m _ _ _ (u64_lt _)) (nrm_m _ _ _ (u64_lt _)) (Lib.hid fun w => normal_any false _ 0 w (u64_lt _) (by omega) (by omega)) (Lib.hid fun w => normal_any false _ 0 w (u64_lt _) (by omega) (by omega)) rfl
  · rw [if_neg (by omega), if_neg (by omega), if_neg (by omega)]
    exact cmp_num s t w h (by omega) hs ht _ _ _ _ _ _ _ _ _ _ _ _ _ _ (Lib.hid fun w => parts_any s hs w) (Lib.hid fun w => parts_any t ht w) (parts_m s hs).1 (parts_m s hs).2 (parts_m t ht).1 (parts_m t ht).2 _ _ rfl rfl
  · rw [if_neg (by omega), if_neg (by omega), if_pos h]
    exact cmp_bytes s t w (classOf s.kind) h rfl he hs ht rs rt

end Go.Proofs.YtaoonpncnahhgaaDoor
