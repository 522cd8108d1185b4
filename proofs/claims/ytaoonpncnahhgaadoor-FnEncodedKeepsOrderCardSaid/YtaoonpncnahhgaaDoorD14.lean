/-
  impl.scalar at everything that is decoded.
-/
import Derived.Test.YtaoonpncnahhgaaDoorDb
import Derived.Test.YtaoonpncnahhgaaDoorEb
namespace Go.Proofs.YtaoonpncnahhgaaDoor
open Go.RowKit

theorem end25 {_K : Prop} (s : Sc) (_y : AV) (w0 w : World) (R : Array Value) (h2 : R.getD 2 undef = .pointer (some ⟨w0.heap.size, 0, none⟩)) (hg : w.heap[w0.heap.size]? = some (.cells #[.int .i64 s.kind, .int .i64 s.int, .int .u64 (s.uint : Int), .int .u64 (s.a : Int), .int .u64 (s.b : Int), .slice s.ba s.bn s.bc] 34)) :
    (results Tryd.f25 R).run Tryd.prog w = .ok s.v w :=
  results_cell_row (P := Tryd.prog) Tryd.results25 _ _ w0.heap.size 34 _ _ _ h2 hg Tryd.underlying34 rfl (by kernel_rfl)

theorem ok_nil : avS ⟨0, 0, 0, 0, 0, none, 0, 0, []⟩ = .nil ∧ Sc.wf ⟨0, 0, 0, 0, 0, none, 0, 0, []⟩ ∧ OkFacts ⟨0, 0, 0, 0, 0, none, 0, 0, []⟩ := by
  refine ⟨rfl, ⟨?_, ?_, ?_, ?_, ?_, ?_, ?_, ?_, ?_, ?_, ?_⟩, ⟨?_, ?_, ?_, ?_, ?_, ?_, ?_, ?_, ?_, ?_⟩⟩ <;> simp
theorem ok_bool (b : Bool) : avS ⟨1, if b then 1 else 0, 0, 0, 0, none, 0, 0, []⟩ = .bool b ∧ Sc.wf ⟨1, if b then 1 else 0, 0, 0, 0, none, 0, 0, []⟩ ∧ OkFacts ⟨1, if b then 1 else 0, 0, 0, 0, none, 0, 0, []⟩ := by
  cases b <;> refine ⟨rfl, ⟨?_, ?_, ?_, ?_, ?_, ?_, ?_, ?_, ?_, ?_, ?_⟩, ⟨?_, ?_, ?_, ?_, ?_, ?_, ?_, ?_, ?_, ?_⟩⟩ <;> simp
theorem ok_u64 (n : Nat) (h : n < 18446744073709551616) : avS ⟨11, 0, n, 0, 0, none, 0, 0, []⟩ = .u64 n ∧ Sc.wf ⟨11, 0, n, 0, 0, none, 0, 0, []⟩ ∧ OkFacts ⟨11, 0, n, 0, 0, none, 0, 0, []⟩ := by
  refine ⟨rfl, ⟨?_, ?_, ?_, ?_, ?_, ?_, ?_, ?_, ?_, ?_, ?_⟩, ⟨?_, ?_, ?_, ?_, ?_, ?_, ?_, ?_, ?_, ?_⟩⟩ <;> simp <;> omega
theorem ok_f64 (n : Nat) (h : n < 18446744073709551616) : avS ⟨13, 0, 0, n, 0, none, 0, 0, []⟩ = .f64 n ∧ Sc.wf ⟨13, 0, 0, n, 0, none, 0, 0, []⟩ ∧ OkFacts ⟨13, 0, 0, n, 0, none, 0, 0, []⟩ := by
  refine ⟨rfl, ⟨?_, ?_, ?_, ?_, ?_, ?_, ?_, ?_, ?_, ?_, ?_⟩, ⟨?_, ?_, ?_, ?_, ?_, ?_, ?_, ?_, ?_, ?_⟩⟩ <;> simp <;> omega
theorem ok_c128 (n m : Nat) (h : n < 18446744073709551616) (h2 : m < 18446744073709551616) : avS ⟨15, 0, 0, n, m, none, 0, 0, []⟩ = .c128 n m ∧ Sc.wf ⟨15, 0, 0, n, m, none, 0, 0, []⟩ ∧ OkFacts ⟨15, 0, 0, n, m, none, 0, 0, []⟩ := by
  refine ⟨rfl, ⟨?_, ?_, ?_, ?_, ?_, ?_, ?_, ?_, ?_, ?_, ?_⟩, ⟨?_, ?_, ?_, ?_, ?_, ?_, ?_, ?_, ?_, ?_⟩⟩ <;> simp <;> omega
theorem ok_byt (bs : List UInt8) (a : Option Addr) (n c : Nat) (hn : bs.length = n) (hc : n ≤ c) (hm : c ≤ 9223372036854775807) : avS ⟨16, 0, 0, 0, 0, a, n, c, bs⟩ = .byt bs ∧ Sc.wf ⟨16, 0, 0, 0, 0, a, n, c, bs⟩ ∧ OkFacts ⟨16, 0, 0, 0, 0, a, n, c, bs⟩ := by
  refine ⟨rfl, ⟨?_, ?_, ?_, ?_, ?_, ?_, ?_, ?_, ?_, ?_, ?_⟩, ⟨?_, ?_, ?_, ?_, ?_, ?_, ?_, ?_, ?_, ?_⟩⟩ <;> simp <;> omega
theorem ok_str (bs : List UInt8) (a : Option Addr) (n c : Nat) (hn : bs.length = n) (hc : n ≤ c) (hm : c ≤ 9223372036854775807) : avS ⟨17, 0, 0, 0, 0, a, n, c, bs⟩ = .str bs ∧ Sc.wf ⟨17, 0, 0, 0, 0, a, n, c, bs⟩ ∧ OkFacts ⟨17, 0, 0, 0, 0, a, n, c, bs⟩ := by
  refine ⟨rfl, ⟨?_, ?_, ?_, ?_, ?_, ?_, ?_, ?_, ?_, ?_, ?_⟩, ⟨?_, ?_, ?_, ?_, ?_, ?_, ?_, ?_, ?_, ?_⟩⟩ <;> simp <;> omega

set_option maxRecDepth 100000 in
set_option maxHeartbeats 1000000 in
theorem scal_nil : Scal25 .nil := by
  intro v w hv
  subst hv
  show Calls Tryd.prog 25 #[.nilIface] w _
  go_enter Tryd.func25, Tryd.ntmps25
  (repeat (first | go_values | go_skip | go_guarded | go_step | go_step3 | go_upon))
  obtain ⟨a1, a2, a3⟩ := ok_nil
  exact bodyPost_ret (v := Sc.v ⟨0, 0, 0, 0, 0, none, 0, 0, []⟩) (results_cell_row (P := Tryd.prog) Tryd.results25 _ _ w.heap.size 34 _ _ _ rfl (heap_alloc_new _ _) Tryd.underlying34 rfl (by kernel_rfl)) rfl ⟨_, rfl, a1, a2, a3, by simp, below1 _ _, rdB5_none _ _⟩
set_option maxRecDepth 100000 in
set_option maxHeartbeats 1000000 in
theorem scal_bool (b : Bool) : Scal25 (.bool b) := by
  intro v w hv
  subst hv
  show Calls Tryd.prog 25 #[.iface 4 (.bool b)] w _
  cases b
  · go_enter Tryd.func25, Tryd.ntmps25
    (repeat (first | go_values | go_skip | go_guarded | go_step | go_step3 | go_upon))
    obtain ⟨a1, a2, a3⟩ := ok_bool false
    exact bodyPost_ret (v := Sc.v ⟨1, 0, 0, 0, 0, none, 0, 0, []⟩) (results_cell_row (P := Tryd.prog) Tryd.results25 _ _ w.heap.size 34 _ _ _ rfl (heap_alloc_new _ _) Tryd.underlying34 rfl (by kernel_rfl)) rfl ⟨_, rfl, a1, a2, a3, by simp, below1 _ _, rdB5_none _ _⟩
  · go_enter Tryd.func25, Tryd.ntmps25
    (repeat (first | go_values | go_skip | go_guarded | go_step | go_step3 | go_upon))
    obtain ⟨a1, a2, a3⟩ := ok_bool true
    exact bodyPost_ret (v := Sc.v ⟨1, 1, 0, 0, 0, none, 0, 0, []⟩) (results_cell_row (P := Tryd.prog) Tryd.results25 _ _ w.heap.size 34 _ _ _ rfl (heap_alloc_new _ _) Tryd.underlying34 rfl (by kernel_rfl)) rfl ⟨_, rfl, a1, a2, a3, by simp, below1 _ _, rdB5_none _ _⟩
set_option maxRecDepth 100000 in
set_option maxHeartbeats 1000000 in
theorem scal_u64 (n : Nat) (h : n < 18446744073709551616) : Scal25 (.u64 n) := by
  intro v w hv
  subst hv
  show Calls Tryd.prog 25 #[.iface 32 (.int .u64 (n : Int))] w _
  go_enter Tryd.func25, Tryd.ntmps25
  (repeat (first | go_values | go_skip | go_guarded | go_step | go_step3 | go_upon))
  obtain ⟨a1, a2, a3⟩ := ok_u64 n h
  exact bodyPost_ret (v := Sc.v ⟨11, 0, n, 0, 0, none, 0, 0, []⟩) (results_cell_row (P := Tryd.prog) Tryd.results25 _ _ w.heap.size 34 _ _ _ rfl (heap_alloc_new _ _) Tryd.underlying34 rfl (by kernel_rfl)) rfl ⟨_, rfl, a1, a2, a3, by simp, below1 _ _, rdB5_none _ _⟩
set_option maxRecDepth 100000 in
set_option maxHeartbeats 1000000 in
theorem scal_f64 (n : Nat) (h : n < 18446744073709551616) : Scal25 (.f64 n) := by
  intro v w hv
  subst hv
  have hfb := run_tobits
  show Calls Tryd.prog 25 #[.iface 76 (.float .f64 n)] w _
  go_enter Tryd.func25, Tryd.ntmps25
  (repeat (first | go_values | go_skip | go_guarded | go_step | go_step3 | go_upon))
  obtain ⟨a1, a2, a3⟩ := ok_f64 n h
  exact bodyPost_ret (v := Sc.v ⟨13, 0, 0, n, 0, none, 0, 0, []⟩) (results_cell_row (P := Tryd.prog) Tryd.results25 _ _ w.heap.size 34 _ _ _ rfl (heap_alloc_new _ _) Tryd.underlying34 rfl (by kernel_rfl)) rfl ⟨_, rfl, a1, a2, a3, by simp, below1 _ _, rdB5_none _ _⟩
set_option maxRecDepth 100000 in
set_option maxHeartbeats 1000000 in
theorem scal_c128 (n m : Nat) (h : n < 18446744073709551616) (h2 : m < 18446744073709551616) : Scal25 (.c128 n m) := by
  intro v w hv
  subst hv
  have hfb := run_tobits
  show Calls Tryd.prog 25 #[.iface 80 (.complex .f64 n m)] w _
  go_enter Tryd.func25, Tryd.ntmps25
  (repeat (first | go_values | go_skip | go_guarded | go_step | go_step3 | go_upon))
  obtain ⟨a1, a2, a3⟩ := ok_c128 n m h h2
  exact bodyPost_ret (v := Sc.v ⟨15, 0, 0, n, m, none, 0, 0, []⟩) (results_cell_row (P := Tryd.prog) Tryd.results25 _ _ w.heap.size 34 _ _ _ rfl (heap_alloc_new _ _) Tryd.underlying34 rfl (by kernel_rfl)) rfl ⟨_, rfl, a1, a2, a3, by simp, below1 _ _, rdB5_none _ _⟩
/-- six cells written in turn -/
abbrev six (w1 : World) (g : Nat) (v0 v1 v2 v3 v4 v5 : Value) : World :=
  (((((w1.setCell ⟨g, 0, none⟩ v0).setCell ⟨g, 1, none⟩ v1).setCell ⟨g, 2, none⟩ v2).setCell ⟨g, 3, none⟩ v3).setCell ⟨g, 4, none⟩ v4).setCell ⟨g, 5, none⟩ v5

theorem six_same (w1 : World) (g : Nat) (v0 v1 v2 v3 v4 v5 a0 a1 a2 a3 a4 a5 : Value) (hg : w1.heap[g]? = some (.cells #[a0, a1, a2, a3, a4, a5] 34)) : (six w1 g v0 v1 v2 v3 v4 v5).heap[g]? = some (.cells #[v0, v1, v2, v3, v4, v5] 34) :=
  heap_setCell_same _ g 5 _ 34 v5 (heap_setCell_same _ g 4 _ 34 v4 (heap_setCell_same _ g 3 _ 34 v3 (heap_setCell_same _ g 2 _ 34 v2 (heap_setCell_same _ g 1 _ 34 v1 (heap_setCell_same _ g 0 _ 34 v0 hg)))))

theorem six_other (w1 : World) (g : Nat) (v0 v1 v2 v3 v4 v5 : Value) (k : Nat) (h : k ≠ g) : (six w1 g v0 v1 v2 v3 v4 v5).heap[k]? = w1.heap[k]? :=
  (heap_setCell_other _ ⟨g, 5, none⟩ k v5 h).trans ((heap_setCell_other _ ⟨g, 4, none⟩ k v4 h).trans ((heap_setCell_other _ ⟨g, 3, none⟩ k v3 h).trans ((heap_setCell_other _ ⟨g, 2, none⟩ k v2 h).trans ((heap_setCell_other _ ⟨g, 1, none⟩ k v1 h).trans (heap_setCell_other _ ⟨g, 0, none⟩ k v0 h)))))

theorem six_below (w1 : World) (g : Nat) (v0 v1 v2 v3 v4 v5 : Value) : Below g w1 (six w1 g v0 v1 v2 v3 v4 v5) :=
  (((((((Below.refl g w1).setCell (p := ⟨g, 0, none⟩) (Nat.le_refl _) v0).setCell (p := ⟨g, 1, none⟩) (Nat.le_refl _) v1).setCell (p := ⟨g, 2, none⟩) (Nat.le_refl _) v2).setCell (p := ⟨g, 3, none⟩) (Nat.le_refl _) v3).setCell (p := ⟨g, 4, none⟩) (Nat.le_refl _) v4).setCell (p := ⟨g, 5, none⟩) (Nat.le_refl _) v5)

theorem six_rd {w1 : World} {g : Nat} (v0 v1 v2 v3 v4 v5 : Value) {cs : Array Value} (hg : w1.heap[g]? = some (.cells cs 34)) {a : Option Addr} {n : Nat} {bs : List UInt8} (h : rdB5 w1.heap.size w1 a n bs) :
    rdB5 (six w1 g v0 v1 v2 v3 v4 v5).heap.size (six w1 g v0 v1 v2 v3 v4 v5) a n bs := by
  have hsz := (six_below w1 g v0 v1 v2 v3 v4 v5).size
  obtain ⟨⟨hl, h3⟩, h4⟩ := h
  rcases h4 with rfl | ⟨b, o, cur, fr, rfl, hlt, hb⟩
  · exact ⟨⟨hl, .inl rfl⟩, .inl rfl⟩
  · have hne : b ≠ g := fun e => by
      subst e
      rw [hg] at hb
      simp at hb
    have hbb := six_other w1 g v0 v1 v2 v3 v4 v5 b hne
    refine ⟨⟨hl, h3.imp id ?_⟩, .inr ⟨b, o, cur, fr, rfl, Nat.lt_of_lt_of_le hlt hsz, hbb.trans hb⟩⟩
    rintro ⟨b2, o2, e2, hlt2, hc⟩
    cases e2
    exact ⟨b, o, rfl, Nat.lt_of_lt_of_le hlt hsz, fun i x hx => (World.cell?_of_block (a := ⟨b, o + i, none⟩) hbb).trans (hc i x hx)⟩

set_option maxRecDepth 100000 in
set_option maxHeartbeats 1000000 in
theorem scal_str (bs : List UInt8) (hl : bs.length ≤ 100000000) : Scal25 (.str bs) := by
  intro v w hv
  subst hv
  show Calls Tryd.prog 25 #[.iface 9 (.string ⟨bs.toArray⟩)] w _
  obtain ⟨t, ht⟩ : ∃ t : ByteArray, t = ⟨bs.toArray⟩ := ⟨_, rfl⟩
  obtain ⟨n, hn⟩ : ∃ n, bs.length = n := ⟨_, rfl⟩
  have hts : t.size = n := by rw [ht, ← hn]; rfl
  rw [← ht]
  have htx : t.data.toList = bs := by rw [ht]
  have HTX := Lib.hid htx
  have HN := Lib.hid hn
  have hcv := Lib.run_convert_string_bytes (P := Tryd.prog) (w.alloc (.cells #[.int .i64 0, .int .i64 0, .int .u64 0, .int .u64 0, .int .u64 0, .slice none 0 0] 34)) 9 27 5 t Tryd.underlying9 Tryd.underlying27 Tryd.underlying5
  have hbl := bytesWorld_below' (w.alloc (.cells #[.int .i64 0, .int .i64 0, .int .u64 0, .int .u64 0, .int .u64 0, .slice none 0 0] 34)) 5 t
  have hrd := rdB_bytesWorld (w.alloc (.cells #[.int .i64 0, .int .i64 0, .int .u64 0, .int .u64 0, .int .u64 0, .slice none 0 0] 34)) (w.heap.size + 1) (by simp) t n hts bs htx
  have hnew := Lib.bytesWorld_at_new (w.alloc (.cells #[.int .i64 0, .int .i64 0, .int .u64 0, .int .u64 0, .int .u64 0, .slice none 0 0] 34)) 5 t
  rw [hts] at hcv
  generalize Lib.bytesWorld (w.alloc (.cells #[.int .i64 0, .int .i64 0, .int .u64 0, .int .u64 0, .int .u64 0, .slice none 0 0] 34)) 5 t = w1 at *
  have hg : w1.heap[w.heap.size]? = some (.cells #[.int .i64 0, .int .i64 0, .int .u64 0, .int .u64 0, .int .u64 0, .slice none 0 0] 34) := (hbl.block w.heap.size (by simp)).trans (heap_new w _)
  obtain ⟨hc1, hf1⟩ := cells_at hg
  have hB1 : Below w.heap.size w w1 := (below1 w _).trans (hbl.mono (by simp))
  have HB1 := Lib.hid hB1
  have HRD := Lib.hid hrd
  have HNEW := Lib.hid hnew
  have HBL := Lib.hid hbl
  clear htx ht hn hB1 hrd hnew hbl
  go_enter Tryd.func25, Tryd.ntmps25
  (repeat (first | go_values | go_skip | go_guarded | go_step | go_step3 | go_upon))
  have hcap := grownCap_ge (w.alloc (.cells #[.int .i64 0, .int .i64 0, .int .u64 0, .int .u64 0, .int .u64 0, .slice none 0 0] 34)) n 0 5
  have hcap2 := grownCap_le_maxLen (w.alloc (.cells #[.int .i64 0, .int .i64 0, .int .u64 0, .int .u64 0, .int .u64 0, .slice none 0 0] 34)) n 0 5 (by have := HN.out; unfold maxLen; omega)
  generalize grownCap (w.alloc (.cells #[.int .i64 0, .int .i64 0, .int .u64 0, .int .u64 0, .int .u64 0, .slice none 0 0] 34)) n 0 5 = cap at *
  obtain ⟨a1, a2, a3⟩ := ok_str bs (some ⟨w.heap.size + 1, 0, none⟩) n cap HN.out hcap (by unfold maxLen at hcap2; omega)
  have h5 : rdB5 w1.heap.size w1 (some ⟨w.heap.size + 1, 0, none⟩) n bs := by
    refine ⟨HRD.out, .inr ⟨w.heap.size + 1, 0, _, _, rfl, ?_, by have := HNEW.out; simpa using this⟩⟩
    have := HBL.out.size
    have h0 := HNEW.out
    rcases Nat.lt_or_ge (w.heap.size + 1) w1.heap.size with h | h
    · exact h
    · rw [show (w.alloc (.cells #[.int .i64 0, .int .i64 0, .int .u64 0, .int .u64 0, .int .u64 0, .slice none 0 0] 34)).heap.size = w.heap.size + 1 by simp, Array.getElem?_eq_none h] at h0
      cases h0
  exact bodyPost_ret (v := Sc.v ⟨17, 0, 0, 0, 0, some ⟨w.heap.size + 1, 0, none⟩, n, cap, bs⟩) (results_cell_row (P := Tryd.prog) Tryd.results25 _ _ w.heap.size 34 _ _ _ rfl (six_same w1 w.heap.size _ _ _ _ _ _ _ _ _ _ _ _ hg) Tryd.underlying34 rfl (by kernel_rfl)) rfl
    ⟨_, rfl, a1, a2, a3, by have := HN.out; show n ≤ _; omega, HB1.out.trans (six_below w1 w.heap.size _ _ _ _ _ _), six_rd _ _ _ _ _ _ hg h5⟩

set_option maxRecDepth 100000 in
set_option maxHeartbeats 1000000 in
theorem scal_byt (bs : List UInt8) (hl : bs.length ≤ 100000000) : Scal25 (.byt bs) := by
  intro v w hv
  obtain ⟨a, n, c, rfl, q1, q2, hr⟩ := hv
  obtain rfl : bs.length = n := hr.1.1
  have hcl := clone_any a c bs (w.alloc (.cells #[.int .i64 0, .int .i64 0, .int .u64 0, .int .u64 0, .int .u64 0, .slice none 0 0] 34)) hl (rdB_mono (hr.1.below (below1 w _) (Nat.le_refl _)) (by simp))
  obtain ⟨n, hn⟩ : ∃ n, bs.length = n := ⟨_, rfl⟩
  rw [hn] at hcl hl
  rw [hn]
  have HN := Lib.hid hn
  have HCL := Lib.hid hcl
  clear hcl hn hr q1 q2
  go_enter Tryd.func25, Tryd.ntmps25
  (repeat (first | go_values | go_skip | go_guarded | go_step | go_step3 | go_upon))
  refine HCL.out.mono ?_
  rintro e w1 ⟨va, cap, rfl, q1, q2, h5, hbl⟩
  have hg : w1.heap[w.heap.size]? = some (.cells #[.int .i64 0, .int .i64 0, .int .u64 0, .int .u64 0, .int .u64 0, .slice none 0 0] 34) := (hbl.block w.heap.size (by simp)).trans (heap_new w _)
  obtain ⟨hc1, hf1⟩ := cells_at hg
  have hB1 : Below w.heap.size w w1 := (below1 w _).trans (hbl.mono (by simp))
  have HB1 := Lib.hid hB1
  have H5 := Lib.hid h5
  clear hB1 h5 hbl HCL
  dsimp only
  (repeat (first | go_values | go_skip | go_guarded | go_step | go_step3 | go_upon))
  obtain ⟨a1, a2, a3⟩ := ok_byt bs va n cap HN.out q1 q2
  exact bodyPost_ret (v := Sc.v ⟨16, 0, 0, 0, 0, va, n, cap, bs⟩) (results_cell_row (P := Tryd.prog) Tryd.results25 _ _ w.heap.size 34 _ _ _ rfl (six_same w1 w.heap.size _ _ _ _ _ _ _ _ _ _ _ _ hg) Tryd.underlying34 rfl (by kernel_rfl)) rfl
    ⟨_, rfl, a1, a2, a3, by show n ≤ _; omega, HB1.out.trans (six_below w1 w.heap.size _ _ _ _ _ _), six_rd _ _ _ _ _ _ hg H5.out⟩

end Go.Proofs.YtaoonpncnahhgaaDoor
