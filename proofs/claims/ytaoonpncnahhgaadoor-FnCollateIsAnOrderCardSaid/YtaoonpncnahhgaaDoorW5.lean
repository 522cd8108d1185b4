/-
  The walk of the reference's Compare.
-/
import Derived.Test.YtaoonpncnahhgaaDoorW4
import Derived.Deep.RegionWith
import Derived.StillTailTactics
namespace Go.Proofs.YtaoonpncnahhgaaDoor
open Go.RowKit

theorem class_same (k : Int) (w : World) : Calls Tryd.prog 11 #[.int .i64 k] w fun e w' => e = .returned (.int .i64 (classOf k)) ∧ w' = w :=
  (class_any k w).mono fun _ _ ⟨h1, h2⟩ => ⟨h1, h2.symm⟩

theorem class_tri (k : Int) : classOf k = 0 ∨ classOf k = 1 ∨ classOf k = 2 ∨ 2 < classOf k := by
  unfold classOf
  (repeat' split) <;> simp

theorem cmp_lt (s t : Sc) (w : World) (h : classOf s.kind < classOf t.kind) :
    Calls Tryd.prog 12 #[s.v, t.v] w fun e w' => e = .returned (.int .i64 (-1)) ∧ Below w.heap.size w w' := by
  obtain ⟨k, i, u, a, b, ba, bn, bc, bs⟩ := s
  obtain ⟨k', i', u', a', b', ba', bn', bc', bs'⟩ := t
  simp only at h
  go_enter Tryd.func12, Tryd.ntmps12
  go_wp2_with fail
  go_quiet ((first | (go_at_call 11; exact Calls.quiet_of_same (class_same _ _)) ))
  go_wp2_with fail
  go_ret
  exact ⟨rfl, by repeat (first | exact two_below _ _ _ | apply below_drewN)⟩

theorem cmp_gt (s t : Sc) (w : World) (h : classOf t.kind < classOf s.kind) :
    Calls Tryd.prog 12 #[s.v, t.v] w fun e w' => e = .returned (.int .i64 1) ∧ Below w.heap.size w w' := by
  obtain ⟨k, i, u, a, b, ba, bn, bc, bs⟩ := s
  obtain ⟨k', i', u', a', b', ba', bn', bc', bs'⟩ := t
  simp only at h
  have h' : ¬ classOf k < classOf k' := by omega
  go_enter Tryd.func12, Tryd.ntmps12
  go_wp2_with fail
  go_quiet ((first | (go_at_call 11; exact Calls.quiet_of_same (class_same _ _)) ))
  go_wp2_with fail
  go_ret
  exact ⟨rfl, by repeat (first | exact two_below _ _ _ | apply below_drewN)⟩

theorem class_eq (k v : Int) (h : classOf k = v) (w : World) : Calls Tryd.prog 11 #[.int .i64 k] w fun e w' => e = .returned (.int .i64 v) ∧ w' = w :=
  (class_any k w).mono fun _ _ ⟨h1, h2⟩ => ⟨by rw [h1, h], h2.symm⟩

theorem cmp_nil (s t : Sc) (w : World) (h : classOf s.kind = 0) (h2 : classOf t.kind = 0) :
    Calls Tryd.prog 12 #[s.v, t.v] w fun e w' => e = .returned (.int .i64 0) ∧ Below w.heap.size w w' := by
  obtain ⟨k, i, u, a, b, ba, bn, bc, bs⟩ := s
  obtain ⟨k', i', u', a', b', ba', bn', bc', bs'⟩ := t
  simp only at h h2
  have H := Lib.hid h
  have H2 := Lib.hid h2
  clear h h2
  go_enter Tryd.func12, Tryd.ntmps12
  go_wp2_with fail
  go_quiet ((first | (go_at_call_of 11 (Value.int .i64 k); exact Calls.quiet_of_same (class_eq k 0 H.out _)) | (go_at_call_of 11 (Value.int .i64 k'); exact Calls.quiet_of_same (class_eq k' 0 H2.out _)) ))
  go_wp2_with fail
  go_ret
  exact ⟨rfl, by repeat (first | exact two_below _ _ _ | apply below_drewN)⟩

theorem world2 (w : World) (cs ds : Array Value) (s t : TypeId) (n : Nat) :
    Below w.heap.size w (((w.alloc (.cells cs s)).alloc (.cells ds t)).drewN n) ∧ (((w.alloc (.cells cs s)).alloc (.cells ds t)).drewN n).heap.size = w.heap.size + 2 ∧
      (((w.alloc (.cells cs s)).alloc (.cells ds t)).drewN n).heap[w.heap.size]? = some (.cells cs s) ∧ (((w.alloc (.cells cs s)).alloc (.cells ds t)).drewN n).heap[w.heap.size + 1]? = some (.cells ds t) :=
  ⟨below_drewN (two_below _ _ _) _, by show ((w.alloc _).alloc _).heap.size = _; simp, heap_new1 _ _ _, heap_new2 _ _ _⟩
theorem rdB_mono {B B' : Nat} {w : World} {ba : Option Addr} {bn : Nat} {bs : List UInt8} (h : rdB B w ba bn bs) (hB : B ≤ B') : rdB B' w ba bn bs :=
  ⟨h.1, h.2.imp id fun ⟨b, o, e, hlt, hc⟩ => ⟨b, o, e, Nat.lt_of_lt_of_le hlt hB, hc⟩⟩

theorem cmp_bytes (s t : Sc) (w : World) (c : Int) (hc : 2 < c) (h : classOf s.kind = c) (h2 : classOf t.kind = c) (hs : s.wf) (ht : t.wf)
    (rs : rdB w.heap.size w s.ba s.bn s.bytes) (rt : rdB w.heap.size w t.ba t.bn t.bytes) :
    Calls Tryd.prog 12 #[s.v, t.v] w fun e w' => e = .returned (.int .i64 (bytesCmp s.bytes t.bytes)) ∧ Below w.heap.size w w' := by
  obtain ⟨k, i, u, a, b, ba, bn, bc, bs⟩ := s
  obtain ⟨k', i', u', a', b', ba', bn', bc', bs'⟩ := t
  have n1 := hs.n1
  have n2 := ht.n1
  simp only at h h2 rs rt n1 n2
  have H := Lib.hid h
  have H2 := Lib.hid h2
  have HS := Lib.hid rs
  have HT := Lib.hid rt
  clear h h2 hs ht rs rt
  go_enter Tryd.func12, Tryd.ntmps12
  go_wp2_with fail
  go_quiet ((first | (go_at_call_of 11 (Value.int .i64 k); exact Calls.quiet_of_same (class_eq k c H.out _)) | (go_at_call_of 11 (Value.int .i64 k'); exact Calls.quiet_of_same (class_eq k' c H2.out _)) ))
  obtain ⟨hB, hz, q1, q2⟩ := world2 w #[.int .i64 k, .int .i64 i, .int .u64 (u : Int), .int .u64 (a : Int), .int .u64 (b : Int), .slice ba bn bc] #[.int .i64 k', .int .i64 i', .int .u64 (u' : Int), .int .u64 (a' : Int), .int .u64 (b' : Int), .slice ba' bn' bc'] 35 35 nq
  generalize (World.drewN _ nq) = W at *
  have g1 := Lib.hid (HS.out.below hB (Nat.le_refl _))
  have g2 := Lib.hid (HT.out.below hB (Nat.le_refl _))
  obtain ⟨e1, f1⟩ := cells_at q1
  obtain ⟨e2, f2⟩ := cells_at q2
  clear q1 q2 HS HT H H2
  go_wp2_with fail
  refine (bytes_any ba ba' bn bn' bc bc' bs bs' W (rdB_mono g1.out (by omega)) (rdB_mono g2.out (by omega)) n1 n2).mono ?_
  rintro e w3 ⟨rfl, hb3⟩
  go_wp2_with fail
  go_ret
  exact ⟨rfl, hB.trans (hb3.mono (by omega))⟩

set_option maxHeartbeats 1000000 in
theorem cmp_num (s t : Sc) (w : World) (h : classOf s.kind = 2) (h2 : classOf t.kind = 2) (hs : s.wf) (ht : t.wf) (sn sb tn tb sjn tjn : Bool) (sm sjm tm tjm : Nat) (se sje te tje : Int)
    (HP : Hid (∀ w : World, Calls Tryd.prog 29 #[s.v] w fun e w' => e = .returned (.tuple #[numV sn sm se, numV sjn sjm sje, .bool sb]) ∧ Below w.heap.size w w'))
    (HR : Hid (∀ w : World, Calls Tryd.prog 29 #[t.v] w fun e w' => e = .returned (.tuple #[numV tn tm te, numV tjn tjm tje, .bool tb]) ∧ Below w.heap.size w w'))
    (m1 : sm < 18446744073709551616) (m2 : sjm < 18446744073709551616) (m3 : tm < 18446744073709551616) (m4 : tjm < 18446744073709551616) (c1 c2 : Int)
    (hc1 : lessN ⟨sn, sm, se⟩ ⟨tn, tm, te⟩ = c1) (hc2 : lessN ⟨sjn, sjm, sje⟩ ⟨tjn, tjm, tje⟩ = c2) :
    Calls Tryd.prog 12 #[s.v, t.v] w fun e w' => e = .returned (.int .i64 (if c1 ≠ 0 then c1 else c2)) ∧ Below w.heap.size w w' := by
  obtain ⟨k, i, u, a, b, ba, bn, bc, bs⟩ := s
  obtain ⟨k', i', u', a', b', ba', bn', bc', bs'⟩ := t
  simp only at h h2
  have H := Lib.hid h
  have H2 := Lib.hid h2
  have C1 := Lib.hid hc1
  have C2 := Lib.hid hc2
  clear h h2 hs ht hc1 hc2
  go_enter Tryd.func12, Tryd.ntmps12
  go_wp2_with fail
  go_quiet ((first | (go_at_call_of 11 (Value.int .i64 k); exact Calls.quiet_of_same (class_eq k 2 H.out _)) | (go_at_call_of 11 (Value.int .i64 k'); exact Calls.quiet_of_same (class_eq k' 2 H2.out _)) ))
  obtain ⟨hB, hz, q1, q2⟩ := world2 w #[.int .i64 k, .int .i64 i, .int .u64 (u : Int), .int .u64 (a : Int), .int .u64 (b : Int), .slice ba bn bc] #[.int .i64 k', .int .i64 i', .int .u64 (u' : Int), .int .u64 (a' : Int), .int .u64 (b' : Int), .slice ba' bn' bc'] 35 35 nq
  generalize (World.drewN _ nq) = W at *
  obtain ⟨e1, f1⟩ := cells_at q1
  obtain ⟨e2, f2⟩ := cells_at q2
  clear H H2
  go_wp2_with fail
  refine (HP.out _).mono ?_
  rintro e W1 ⟨rfl, hb1⟩
  have p2 := (hb1.block _ (by omega)).trans q2
  have z1 : w.heap.size + 1 < W1.heap.size := by have := hb1.size; omega
  have z1' : w.heap.size < W1.heap.size := by omega
  have B1 := hB.trans (hb1.mono (by omega))
  clear e1 f1 e2 f2 q1 q2 hb1 HP hz hB
  obtain ⟨e2, f2⟩ := cells_at p2
  go_wp2_with fail
  have a7 := heap_new1 W1 (numBox sn sm se) (numBox sjn sjm sje)
  have a8 := heap_new2 W1 (numBox sn sm se) (numBox sjn sjm sje)
  have B2 := B1.trans ((two_below W1 (numBox sn sm se) (numBox sjn sjm sje)).mono (by omega))
  have z2 : ((W1.alloc (numBox sn sm se)).alloc (numBox sjn sjm sje)).heap.size = W1.heap.size + 2 := by simp
  generalize ((W1.alloc (numBox sn sm se)).alloc (numBox sjn sjm sje)) = W2 at *
  refine (HR.out _).mono ?_
  rintro e W3 ⟨rfl, hb3⟩
  have r7 := (hb3.block _ (by omega)).trans a7
  have r8 := (hb3.block _ (by omega)).trans a8
  have z3 : W1.heap.size + 1 < W3.heap.size := by have := hb3.size; omega
  have B3 := B2.trans (hb3.mono (by omega))
  have z3' : W1.heap.size < W3.heap.size := by omega
  have z3'' : W1.heap.size ≤ W3.heap.size := by omega
  obtain ⟨d7, -⟩ := cells_at r7
  clear e2 f2 a7 a8 z2 hb3 HR B1 B2 p2
  go_wp2_with fail
  clear d7
  have y7 := (Below.heap_alloc (W3.alloc (numBox tn tm te)) (numBox tjn tjm tje) W1.heap.size (by simp; omega)).trans ((Below.heap_alloc W3 (numBox tn tm te) W1.heap.size (by omega)).trans r7)
  have y8 := (Below.heap_alloc (W3.alloc (numBox tn tm te)) (numBox tjn tjm tje) (W1.heap.size + 1) (by simp; omega)).trans ((Below.heap_alloc W3 (numBox tn tm te) (W1.heap.size + 1) (by omega)).trans r8)
  have y10 := heap_new1 W3 (numBox tn tm te) (numBox tjn tjm tje)
  have y11 := heap_new2 W3 (numBox tn tm te) (numBox tjn tjm tje)
  have B4 := B3.trans ((two_below W3 (numBox tn tm te) (numBox tjn tjm tje)).mono (by omega))
  have z4 : W3.heap.size + 1 < ((W3.alloc (numBox tn tm te)).alloc (numBox tjn tjm tje)).heap.size := by simp
  clear r7 r8 B3 z3' z3''
  generalize ((W3.alloc (numBox tn tm te)).alloc (numBox tjn tjm tje)) = W4 at *
  have zz : w.heap.size ≤ W4.heap.size := by omega
  refine (less_any ⟨sn, sm, se⟩ ⟨tn, tm, te⟩ W4 m1 m3).mono ?_
  rw [C1.out]
  rintro e W5 ⟨rfl, hb5⟩
  have x8 := (hb5.block _ (by omega)).trans y8
  have x11 := (hb5.block _ (by omega)).trans y11
  have B5 := B4.trans (hb5.mono zz)
  clear y7 y8 y10 y11 hb5 B4
  obtain ⟨d8, -⟩ := cells_at x8
  obtain ⟨d11, -⟩ := cells_at x11
  by_cases h0 : c1 = 0
  · subst h0
    go_wp2_with fail
    refine (less_any ⟨sjn, sjm, sje⟩ ⟨tjn, tjm, tje⟩ W5 m2 m4).mono ?_
    rw [C2.out]
    rintro e W6 ⟨rfl, hb6⟩
    go_wp2_with fail
    go_ret
    exact ⟨by simp, B5.trans (hb6.mono B5.size)⟩
  · have hne : (c1 != 0) = true := by rw [bne_iff_ne]; exact h0
    go_wp2_with fail
    go_ret
    exact ⟨by simp [h0], B5⟩

end Go.Proofs.YtaoonpncnahhgaaDoor
