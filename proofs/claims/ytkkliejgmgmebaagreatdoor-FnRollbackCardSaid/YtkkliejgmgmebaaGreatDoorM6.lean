/-
  impl.call over a MemFiler.
-/
import Derived.Test.YtkkliejgmgmebaaGreatDoorMa
import Derived.Deep.RegionWith
namespace Go.Proofs.YtkkliejgmgmebaaGreatDoor
open Go.RowKit

/-- what a call of a filer returned -/
structure Res where
  n : Int
  d : List UInt8
  sz : Int
  err : Int

/-- what a call does to bytes -/
def mstep (bs : List UInt8) (kind off size : Int) (data : List UInt8) : List UInt8 :=
  if kind = 0 then wrB bs off.toNat data else if kind = 2 then resB bs size.toNat else bs

/-- is this what the call of a file with these bytes returns? -/
def resOk (bs : List UInt8) (kind off size : Int) (dn : Nat) (r : Res) : Prop :=
  (kind = 0 → r.n = dn ∧ r.err = 0) ∧
  (kind = 1 → r.d = (bs.drop off.toNat).take size.toNat ∧ r.n = r.d.length ∧ r.err = if (r.d.length : Int) < size then 1 else 0) ∧
  (kind = 2 → r.err = 0) ∧ (kind = 3 → r.err = 0) ∧ (kind = 4 → r.sz = bs.length ∧ r.err = 0)

/-- a result as a value; its bytes lie in a block that X names -/
def ResV (X : Nat → Prop) (w : World) (v : Value) (r : Res) : Prop :=
  ∃ a c, v = .agg #[.int .i64 r.n, .slice a r.d.length c, .int .i64 r.sz, .int .i64 r.err] ∧ r.d.length ≤ c ∧ Rd X w a r.d.length r.d

theorem MemIs.zis {Pr : Nat → Prop} {w : World} {gm gz : Nat} {v : Value} {bs : List UInt8} (h : MemIs Pr w gm gz v bs) : ZIs Pr w gz v bs := ⟨h.fz, h.nz, h.row⟩
theorem MemIs.c0 {Pr : Nat → Prop} {w : World} {gm gz : Nat} {v : Value} {bs : List UInt8} (h : MemIs Pr w gm gz v bs) : w.cell? ⟨gm, 0, none⟩ = some (.pointer (some ⟨gz, 0, none⟩)) := by
  obtain ⟨n, -, -, hm⟩ := h.fm
  exact (cells_at hm).1 0
theorem MemIs.widen {Pr Pr' : Nat → Prop} {w : World} {gm gz : Nat} {v : Value} {bs : List UInt8} (h : MemIs Pr w gm gz v bs) (hp : ∀ k, k < w.heap.size → ¬ Pr k → ¬ Pr' k) : MemIs Pr' w gm gz v bs := by
  obtain ⟨n, h0, h1, hm⟩ := h.fm
  exact ⟨⟨n, h0, h1, hm⟩, h.fz, hp _ (lt_of_heap hm) h.nm, hp _ (lt_of_heap h.fz) h.nz, h.row.widen fun k hk => hp k (h.row.own hk).1 (h.row.own hk).2.1⟩
theorem MemIs.kept {Pr Pr2 : Nat → Prop} {w w' : World} {gm gz : Nat} {v : Value} {bs : List UInt8} (h : MemIs Pr w gm gz v bs) (hk : Keeps Pr2 w w') (hp : ∀ k, k < w.heap.size → ¬ Pr k → Pr2 k) : MemIs Pr w' gm gz v bs := by
  obtain ⟨n, h0, h1, hm⟩ := h.fm
  exact ⟨⟨n, h0, h1, (hk.block _ (hp _ (lt_of_heap hm) h.nm)).trans hm⟩, (hk.block _ (hp _ (lt_of_heap h.fz) h.nz)).trans h.fz, h.nm, h.nz, h.row.kept fun k hk' => hk.block k (hp k (h.row.own hk').1 (h.row.own hk').2.1)⟩
/-- the file behind has changed, the MemFiler not -/
theorem MemIs.of_zis {Pr : Nat → Prop} {w w' : World} {gm gz : Nat} {v v' : Value} {bs bs' : List UInt8} (h : MemIs Pr w gm gz v bs) (hz : ZIs Pr w' gz v' bs') (hk : w'.heap[gm]? = w.heap[gm]?) : MemIs Pr w' gm gz v' bs' := by
  obtain ⟨n, h0, h1, hm⟩ := h.fm
  exact ⟨⟨n, h0, h1, hk.trans hm⟩, hz.fz, h.nm, hz.nz, hz.row⟩

/-- the two boxes of impl.call -/
abbrev w2B (w : World) (kind off size : Int) (da : Option Addr) (dn dc : Nat) : World :=
  (w.alloc (.cells #[.int .i64 kind, .int .i64 off, .int .i64 size, .slice da dn dc] 42)).alloc (.cells #[.int .i64 0, .slice none 0 0, .int .i64 0, .int .i64 0] 60)

/-- what impl.call leaves: the file's bytes, and a result of which R holds; its bytes lie in blocks that X names -/
def CallPost (Pr : Nat → Prop) (w : World) (gm gz : Nat) (bs' : List UInt8) (R : Res → Prop) (e : Ending) (w' : World) : Prop :=
  ∃ (X : Nat → Prop) (rv : Value) (r : Res) (v' : Value), e = .returned rv ∧ (Inw X w' ∧ ∀ k, X k → w.heap.size ≤ k) ∧ ResV X w' rv r ∧ R r ∧ MemIs (fun k => Pr k ∨ X k) w' gm gz v' bs' ∧ Keeps Pr w w'

/-- the boxes are no part of the file -/
theorem MemIs.boxed {Pr : Nat → Prop} {w W : World} {gm gz : Nat} {v : Value} {bs : List UInt8} (h : MemIs Pr w gm gz v bs) (hW : Keeps (Old w) w W) :
    MemIs (fun k => Pr k ∨ k = w.heap.size ∨ k = w.heap.size + 1) W gm gz v bs ∧ Keeps (Old w) w W :=
  ⟨(h.widen fun k hk hn hor => by
    rcases hor with h | h | h
    · exact hn h
    · omega
    · omega).kept hW fun k hk hn => by
    have : k < w.heap.size := Classical.byContradiction fun hge => hn (.inr (by omega))
    exact this, hW⟩

theorem res_nil (w : World) (X : Nat → Prop) (n sz err : Int) : ResV X w (.agg #[.int .i64 n, .slice none 0 0, .int .i64 sz, .int .i64 err]) ⟨n, [], sz, err⟩ := ⟨none, 0, rfl, Nat.le_refl _, rfl, .inl rfl⟩

theorem call_end {Pr : Nat → Prop} {w W W' : World} {gm gz : Nat} {v' rv : Value} {bs' : List UInt8} {R : Res → Prop} {r : Res} (hk : Keeps (fun k => k ≠ w.heap.size + 1) W W') (hin : Inw Pr w) (hm : MemIs (fun k => Pr k ∨ k = w.heap.size ∨ k = w.heap.size + 1) W gm gz v' bs') (hK : Keeps Pr w W)
    (hr : ResV (fun _ => False) W' rv r) (hR : R r) : CallPost Pr w gm gz bs' R (.returned rv) W' :=
  ⟨fun _ => False, rv, r, v', rfl, ⟨fun _ h => h.elim, fun _ h => h.elim⟩, hr, hR, (hm.kept hk fun k _ hn e => hn (.inr (.inr e))).widen fun k _ hn h => h.elim (fun h => hn (.inl h)) id,
    hK.trans (hk.mono fun k hp e => by have := hin k hp; omega)⟩

theorem MemIs.nest {Pr : Nat → Prop} {w : World} {gm gz : Nat} {v : Value} {bs : List UInt8} (h : MemIs Pr w gm gz v bs) (n' : Int) (hn : -9223372036854775808 ≤ n' ∧ n' ≤ 9223372036854775807) :
    MemIs Pr (w.setCell ⟨gm, 1, none⟩ (.int .i64 n')) gm gz v bs ∧ Keeps (fun k => k ≠ gm) w (w.setCell ⟨gm, 1, none⟩ (.int .i64 n')) := by
  obtain ⟨n, h0, h1, hm⟩ := h.fm
  have hne : gz ≠ gm := fun e => by
    have := h.fz
    rw [e, hm] at this
    simp only [Option.some.injEq, Obj.cells.injEq] at this
    exact absurd this.2.1 (by decide)
  exact ⟨⟨⟨n', hn.1, hn.2, heap_set_same hm 1 _⟩, (heap_set_other _ _ _ (by exact hne)).trans h.fz, h.nm, h.nz, h.row.setOther hm (by decide) 1 _⟩, Keeps.setCell (a := ⟨gm, 1, none⟩) (fun h => h rfl) _⟩

theorem MemIs.lt {Pr : Nat → Prop} {w : World} {gm gz : Nat} {v : Value} {bs : List UInt8} (h : MemIs Pr w gm gz v bs) : gm < w.heap.size := by
  obtain ⟨n, -, -, hm⟩ := h.fm
  exact lt_of_heap hm

theorem MemIs.zis2 {Pr : Nat → Prop} {w : World} {gm gz : Nat} {v : Value} {bs : List UInt8} (h : MemIs Pr w gm gz v bs) : ZIs (also Pr gm) w gz v bs := by
  obtain ⟨n, h0, h1, hm⟩ := h.fm
  have hne : gz ≠ gm := fun e => by
    have := h.fz
    rw [e, hm] at this
    simp only [Option.some.injEq, Obj.cells.injEq] at this
    exact absurd this.2.1 (by decide)
  exact ⟨h.fz, fun e => e.elim h.nz hne, h.row.widen fun k hk e => e.elim (h.row.own hk).2.1 fun e => h.row.neElem hm (by decide) (by rw [← e]; exact hk)⟩

theorem ZIs.mono {Pr Pr' : Nat → Prop} {w : World} {gz : Nat} {v : Value} {bs : List UInt8} (h : ZIs Pr w gz v bs) (hp : ∀ k, Pr' k → Pr k) : ZIs Pr' w gz v bs := h.widen fun k _ hn hk => hn (hp k hk)

set_option maxRecDepth 100000 in
set_option maxHeartbeats 4000000 in
theorem call_mem_4 (Pr : Nat → Prop) (w : World) (gm gz : Nat) (v : Value) (bs : List UInt8) (off size : Int) (da : Option Addr) (dn dc : Nat) (hin : Inw Pr w) (h : MemIs Pr w gm gz v bs) :
    Calls Tryz.prog 26 #[.iface 68 (.pointer (some ⟨gm, 0, none⟩)), .agg #[.int .i64 4, .int .i64 off, .int .i64 size, .slice da dn dc]] w
      (CallPost Pr w gm gz bs fun r => resOk bs 4 off size dn r) := by
  have H := Lib.hid h
  have HI := Lib.hid hin
  clear h hin
  go_enter Tryz.func26, Tryz.ntmps26
  (repeat (first | go_values | go_skip | go_guarded | go_step | go_upon))
  have hW : Keeps (Old w) w (w2B w 4 off size da dn dc) := (Keeps.alloc (fun _ h => h) _).trans (Keeps.alloc (fun k (h : k < w.heap.size) => by simp; omega) _)
  have hs : (w2B w 4 off size da dn dc).heap.size = w.heap.size + 2 := by simp
  have hb0 : (w2B w 4 off size da dn dc).heap[w.heap.size]? = some (.cells #[.int .i64 4, .int .i64 off, .int .i64 size, .slice da dn dc] 42 (0, 0)) := heap_alloc2_old w _ _
  have hb1 : (w2B w 4 off size da dn dc).heap[w.heap.size + 1]? = some (.cells #[.int .i64 0, .slice none 0 0, .int .i64 0, .int .i64 0] 60 (0, 0)) := heap_alloc2_new w _ _
  change Calls Tryz.prog _ _ (w2B w 4 off size da dn dc) _
  generalize w2B w 4 off size da dn dc = W2 at *
  have h2 := H.out.kept hW (fun k hk _ => hk)
  refine (msize_any Pr W2 gm gz v bs h2.c0 h2.zis).mono ?_
  rintro e w3 ⟨rfl, rfl⟩
  have HB1 := Lib.hid hb1
  have HM := Lib.hid (H.out.boxed hW)
  clear hb0 hb1 hW hs h2
  obtain ⟨b0, b1⟩ := cells_at HB1.out
  have x0 := b0 0
  have x1 := b0 1
  have x2 := b0 2
  have x3 := b0 3
  have f0 := b1 0
  have f1 := b1 1
  have f2 := b1 2
  have f3 := b1 3
  simp only [List.getElem?_toArray, List.getElem?_cons_succ, List.getElem?_cons_zero] at x0 x1 x2 x3
  clear b0 b1
  dsimp only
  (repeat (first | go_values | go_skip | go_guarded | go_step | go_upon))
  refine (kind_nil _).mono ?_
  rintro e w4 ⟨rfl, rfl⟩
  dsimp only
  (repeat (first | go_values | go_skip | go_guarded | go_step | go_upon))
  have q0 := heap_set_same HB1.out 2 (.int .i64 (bs.length : Int))
  have k0 := (Keeps.setCell (Pr := fun k => k ≠ w.heap.size + 1) (a := ⟨w.heap.size + 1, 2, none⟩) (fun h => h rfl) (.int .i64 (bs.length : Int)) : Keeps _ w3 _)
  have q1 := heap_set_same q0 3 (.int .i64 0)
  have k1 := k0.trans (Keeps.setCell (Pr := fun k => k ≠ w.heap.size + 1) (a := ⟨w.heap.size + 1, 3, none⟩) (fun h => h rfl) (.int .i64 0))
  have q2 := heap_set_same q1 0 (.int .i64 0)
  have k2 := k1.trans (Keeps.setCell (Pr := fun k => k ≠ w.heap.size + 1) (a := ⟨w.heap.size + 1, 0, none⟩) (fun h => h rfl) (.int .i64 0))
  have q3 := heap_set_same q2 1 (.slice none 0 0)
  have k3 := k2.trans (Keeps.setCell (Pr := fun k => k ≠ w.heap.size + 1) (a := ⟨w.heap.size + 1, 1, none⟩) (fun h => h rfl) (.slice none 0 0))
  have q4 := heap_set_same q3 2 (.int .i64 (bs.length : Int))
  have k4 := k3.trans (Keeps.setCell (Pr := fun k => k ≠ w.heap.size + 1) (a := ⟨w.heap.size + 1, 2, none⟩) (fun h => h rfl) (.int .i64 (bs.length : Int)))
  have q5 := heap_set_same q4 3 (.int .i64 0)
  have k5 := k4.trans (Keeps.setCell (Pr := fun k => k ≠ w.heap.size + 1) (a := ⟨w.heap.size + 1, 3, none⟩) (fun h => h rfl) (.int .i64 0))
  exact bodyPost_ret (results_cell_row rfl _ _ (w.heap.size + 1) 60 _ _ _ rfl q5 Tryz.underlying60 rfl (by kernel_rfl)) rfl
    (call_end k5 HI.out HM.out.1 (HM.out.2.mono HI.out) (res_nil _ _ 0 _ 0) ⟨fun e => absurd e (by decide), fun e => absurd e (by decide), fun e => absurd e (by decide), fun e => absurd e (by decide), fun _ => ⟨rfl, rfl⟩⟩)

set_option maxRecDepth 100000 in
set_option maxHeartbeats 4000000 in
theorem call_mem_3 (Pr : Nat → Prop) (w : World) (gm gz : Nat) (v : Value) (bs : List UInt8) (off size : Int) (da : Option Addr) (dn dc : Nat) (hin : Inw Pr w) (h : MemIs Pr w gm gz v bs) :
    Calls Tryz.prog 26 #[.iface 68 (.pointer (some ⟨gm, 0, none⟩)), .agg #[.int .i64 3, .int .i64 off, .int .i64 size, .slice da dn dc]] w
      (CallPost Pr w gm gz bs fun r => resOk bs 3 off size dn r) := by
  have H := Lib.hid h
  have HI := Lib.hid hin
  clear h hin
  go_enter Tryz.func26, Tryz.ntmps26
  (repeat (first | go_values | go_skip | go_guarded | go_step | go_upon))
  have hW : Keeps (Old w) w (w2B w 3 off size da dn dc) := (Keeps.alloc (fun _ h => h) _).trans (Keeps.alloc (fun k (h : k < w.heap.size) => by simp; omega) _)
  have hs : (w2B w 3 off size da dn dc).heap.size = w.heap.size + 2 := by simp
  have hb0 : (w2B w 3 off size da dn dc).heap[w.heap.size]? = some (.cells #[.int .i64 3, .int .i64 off, .int .i64 size, .slice da dn dc] 42 (0, 0)) := heap_alloc2_old w _ _
  have hb1 : (w2B w 3 off size da dn dc).heap[w.heap.size + 1]? = some (.cells #[.int .i64 0, .slice none 0 0, .int .i64 0, .int .i64 0] 60 (0, 0)) := heap_alloc2_new w _ _
  change Calls Tryz.prog _ _ (w2B w 3 off size da dn dc) _
  generalize w2B w 3 off size da dn dc = W2 at *
  have h2 := H.out.kept hW (fun k hk _ => hk)
  refine (mpunch_any _ _ _ _).mono ?_
  rintro e w3 ⟨rfl, rfl⟩
  have HB1 := Lib.hid hb1
  have HM := Lib.hid (H.out.boxed hW)
  clear hb0 hb1 hW hs h2
  obtain ⟨b0, b1⟩ := cells_at HB1.out
  have x0 := b0 0
  have x1 := b0 1
  have x2 := b0 2
  have x3 := b0 3
  have f0 := b1 0
  have f1 := b1 1
  have f2 := b1 2
  have f3 := b1 3
  simp only [List.getElem?_toArray, List.getElem?_cons_succ, List.getElem?_cons_zero] at x0 x1 x2 x3
  clear b0 b1
  dsimp only
  (repeat (first | go_values | go_skip | go_guarded | go_step | go_upon))
  refine (kind_nil _).mono ?_
  rintro e w4 ⟨rfl, rfl⟩
  dsimp only
  (repeat (first | go_values | go_skip | go_guarded | go_step | go_upon))
  have q0 := heap_set_same HB1.out 3 (.int .i64 0)
  have k0 := (Keeps.setCell (Pr := fun k => k ≠ w.heap.size + 1) (a := ⟨w.heap.size + 1, 3, none⟩) (fun h => h rfl) (.int .i64 0) : Keeps _ w4 _)
  have q1 := heap_set_same q0 0 (.int .i64 0)
  have k1 := k0.trans (Keeps.setCell (Pr := fun k => k ≠ w.heap.size + 1) (a := ⟨w.heap.size + 1, 0, none⟩) (fun h => h rfl) (.int .i64 0))
  have q2 := heap_set_same q1 1 (.slice none 0 0)
  have k2 := k1.trans (Keeps.setCell (Pr := fun k => k ≠ w.heap.size + 1) (a := ⟨w.heap.size + 1, 1, none⟩) (fun h => h rfl) (.slice none 0 0))
  have q3 := heap_set_same q2 2 (.int .i64 0)
  have k3 := k2.trans (Keeps.setCell (Pr := fun k => k ≠ w.heap.size + 1) (a := ⟨w.heap.size + 1, 2, none⟩) (fun h => h rfl) (.int .i64 0))
  have q4 := heap_set_same q3 3 (.int .i64 0)
  have k4 := k3.trans (Keeps.setCell (Pr := fun k => k ≠ w.heap.size + 1) (a := ⟨w.heap.size + 1, 3, none⟩) (fun h => h rfl) (.int .i64 0))
  exact bodyPost_ret (results_cell_row rfl _ _ (w.heap.size + 1) 60 _ _ _ rfl q4 Tryz.underlying60 rfl (by kernel_rfl)) rfl
    (call_end k4 HI.out HM.out.1 (HM.out.2.mono HI.out) (res_nil _ _ 0 0 0) ⟨fun e => absurd e (by decide), fun e => absurd e (by decide), fun e => absurd e (by decide), fun _ => rfl, fun e => absurd e (by decide)⟩)

set_option maxRecDepth 100000 in
set_option maxHeartbeats 4000000 in
theorem call_mem_7 (Pr : Nat → Prop) (w : World) (gm gz : Nat) (v : Value) (bs : List UInt8) (off size : Int) (da : Option Addr) (dn dc : Nat) (hin : Inw Pr w) (h : MemIs Pr w gm gz v bs) :
    Calls Tryz.prog 26 #[.iface 68 (.pointer (some ⟨gm, 0, none⟩)), .agg #[.int .i64 7, .int .i64 off, .int .i64 size, .slice da dn dc]] w
      (CallPost Pr w gm gz bs fun r => resOk bs 7 off size dn r) := by
  have H := Lib.hid h
  have HI := Lib.hid hin
  clear h hin
  go_enter Tryz.func26, Tryz.ntmps26
  (repeat (first | go_values | go_skip | go_guarded | go_step | go_upon))
  have hW : Keeps (Old w) w (w2B w 7 off size da dn dc) := (Keeps.alloc (fun _ h => h) _).trans (Keeps.alloc (fun k (h : k < w.heap.size) => by simp; omega) _)
  have hs : (w2B w 7 off size da dn dc).heap.size = w.heap.size + 2 := by simp
  have hb0 : (w2B w 7 off size da dn dc).heap[w.heap.size]? = some (.cells #[.int .i64 7, .int .i64 off, .int .i64 size, .slice da dn dc] 42 (0, 0)) := heap_alloc2_old w _ _
  have hb1 : (w2B w 7 off size da dn dc).heap[w.heap.size + 1]? = some (.cells #[.int .i64 0, .slice none 0 0, .int .i64 0, .int .i64 0] 60 (0, 0)) := heap_alloc2_new w _ _
  change Calls Tryz.prog _ _ (w2B w 7 off size da dn dc) _
  generalize w2B w 7 off size da dn dc = W2 at *
  have h2 := H.out.kept hW (fun k hk _ => hk)
  refine (mrollback_any _ _).mono ?_
  rintro e w3 ⟨rfl, rfl⟩
  have HB1 := Lib.hid hb1
  have HM := Lib.hid (H.out.boxed hW)
  clear hb0 hb1 hW hs h2
  obtain ⟨b0, b1⟩ := cells_at HB1.out
  have x0 := b0 0
  have x1 := b0 1
  have x2 := b0 2
  have x3 := b0 3
  have f0 := b1 0
  have f1 := b1 1
  have f2 := b1 2
  have f3 := b1 3
  simp only [List.getElem?_toArray, List.getElem?_cons_succ, List.getElem?_cons_zero] at x0 x1 x2 x3
  clear b0 b1
  dsimp only
  (repeat (first | go_values | go_skip | go_guarded | go_step | go_upon))
  refine (kind_nil _).mono ?_
  rintro e w4 ⟨rfl, rfl⟩
  dsimp only
  (repeat (first | go_values | go_skip | go_guarded | go_step | go_upon))
  have q0 := heap_set_same HB1.out 3 (.int .i64 0)
  have k0 := (Keeps.setCell (Pr := fun k => k ≠ w.heap.size + 1) (a := ⟨w.heap.size + 1, 3, none⟩) (fun h => h rfl) (.int .i64 0) : Keeps _ w4 _)
  have q1 := heap_set_same q0 0 (.int .i64 0)
  have k1 := k0.trans (Keeps.setCell (Pr := fun k => k ≠ w.heap.size + 1) (a := ⟨w.heap.size + 1, 0, none⟩) (fun h => h rfl) (.int .i64 0))
  have q2 := heap_set_same q1 1 (.slice none 0 0)
  have k2 := k1.trans (Keeps.setCell (Pr := fun k => k ≠ w.heap.size + 1) (a := ⟨w.heap.size + 1, 1, none⟩) (fun h => h rfl) (.slice none 0 0))
  have q3 := heap_set_same q2 2 (.int .i64 0)
  have k3 := k2.trans (Keeps.setCell (Pr := fun k => k ≠ w.heap.size + 1) (a := ⟨w.heap.size + 1, 2, none⟩) (fun h => h rfl) (.int .i64 0))
  have q4 := heap_set_same q3 3 (.int .i64 0)
  have k4 := k3.trans (Keeps.setCell (Pr := fun k => k ≠ w.heap.size + 1) (a := ⟨w.heap.size + 1, 3, none⟩) (fun h => h rfl) (.int .i64 0))
  exact bodyPost_ret (results_cell_row rfl _ _ (w.heap.size + 1) 60 _ _ _ rfl q4 Tryz.underlying60 rfl (by kernel_rfl)) rfl
    (call_end k4 HI.out HM.out.1 (HM.out.2.mono HI.out) (res_nil _ _ 0 0 0) ⟨fun e => absurd e (by decide), fun e => absurd e (by decide), fun e => absurd e (by decide), fun _ => rfl, fun e => absurd e (by decide)⟩)

set_option maxRecDepth 100000 in
set_option maxHeartbeats 4000000 in
theorem call_mem_5 (Pr : Nat → Prop) (w : World) (gm gz : Nat) (v : Value) (bs : List UInt8) (off size : Int) (da : Option Addr) (dn dc : Nat) (hin : Inw Pr w) (h : MemIs Pr w gm gz v bs) :
    Calls Tryz.prog 26 #[.iface 68 (.pointer (some ⟨gm, 0, none⟩)), .agg #[.int .i64 5, .int .i64 off, .int .i64 size, .slice da dn dc]] w
      (CallPost Pr w gm gz bs fun r => resOk bs 5 off size dn r) := by
  have H := Lib.hid h
  have HI := Lib.hid hin
  clear h hin
  go_enter Tryz.func26, Tryz.ntmps26
  (repeat (first | go_values | go_skip | go_guarded | go_step | go_upon))
  have hW : Keeps (Old w) w (w2B w 5 off size da dn dc) := (Keeps.alloc (fun _ h => h) _).trans (Keeps.alloc (fun k (h : k < w.heap.size) => by simp; omega) _)
  have hs : (w2B w 5 off size da dn dc).heap.size = w.heap.size + 2 := by simp
  have hb0 : (w2B w 5 off size da dn dc).heap[w.heap.size]? = some (.cells #[.int .i64 5, .int .i64 off, .int .i64 size, .slice da dn dc] 42 (0, 0)) := heap_alloc2_old w _ _
  have hb1 : (w2B w 5 off size da dn dc).heap[w.heap.size + 1]? = some (.cells #[.int .i64 0, .slice none 0 0, .int .i64 0, .int .i64 0] 60 (0, 0)) := heap_alloc2_new w _ _
  change Calls Tryz.prog _ _ (w2B w 5 off size da dn dc) _
  generalize w2B w 5 off size da dn dc = W2 at *
  have h2 := H.out.kept hW (fun k hk _ => hk)
  obtain ⟨n, -, -, hm⟩ := h2.fm
  refine (mbegin_any W2 gm n _ hm).mono ?_
  rintro e w3 ⟨rfl, n', hn', rfl⟩
  obtain ⟨hm1, hk1⟩ := (H.out.boxed hW).1.nest n' hn'
  have hgm := H.out.lt
  replace hb1 := (hk1.block _ (show w.heap.size + 1 ≠ gm by omega)).trans hb1
  have hK := Lib.hid ((hW.mono HI.out).trans (hk1.mono fun k hp e => H.out.nm (e ▸ hp)))
  generalize W2.setCell ⟨gm, 1, none⟩ (.int .i64 n') = W3 at *
  have HB1 := Lib.hid hb1
  have HM := Lib.hid hm1
  clear hb0 hb1 hW hs h2 hm hm1 hk1 hgm
  obtain ⟨b0, b1⟩ := cells_at HB1.out
  have x0 := b0 0
  have x1 := b0 1
  have x2 := b0 2
  have x3 := b0 3
  have f0 := b1 0
  have f1 := b1 1
  have f2 := b1 2
  have f3 := b1 3
  simp only [List.getElem?_toArray, List.getElem?_cons_succ, List.getElem?_cons_zero] at x0 x1 x2 x3
  clear b0 b1
  dsimp only
  (repeat (first | go_values | go_skip | go_guarded | go_step | go_upon))
  refine (kind_nil _).mono ?_
  rintro e w4 ⟨rfl, rfl⟩
  dsimp only
  (repeat (first | go_values | go_skip | go_guarded | go_step | go_upon))
  have q0 := heap_set_same HB1.out 3 (.int .i64 0)
  have k0 := (Keeps.setCell (Pr := fun k => k ≠ w.heap.size + 1) (a := ⟨w.heap.size + 1, 3, none⟩) (fun h => h rfl) (.int .i64 0) : Keeps _ w4 _)
  have q1 := heap_set_same q0 0 (.int .i64 0)
  have k1 := k0.trans (Keeps.setCell (Pr := fun k => k ≠ w.heap.size + 1) (a := ⟨w.heap.size + 1, 0, none⟩) (fun h => h rfl) (.int .i64 0))
  have q2 := heap_set_same q1 1 (.slice none 0 0)
  have k2 := k1.trans (Keeps.setCell (Pr := fun k => k ≠ w.heap.size + 1) (a := ⟨w.heap.size + 1, 1, none⟩) (fun h => h rfl) (.slice none 0 0))
  have q3 := heap_set_same q2 2 (.int .i64 0)
  have k3 := k2.trans (Keeps.setCell (Pr := fun k => k ≠ w.heap.size + 1) (a := ⟨w.heap.size + 1, 2, none⟩) (fun h => h rfl) (.int .i64 0))
  have q4 := heap_set_same q3 3 (.int .i64 0)
  have k4 := k3.trans (Keeps.setCell (Pr := fun k => k ≠ w.heap.size + 1) (a := ⟨w.heap.size + 1, 3, none⟩) (fun h => h rfl) (.int .i64 0))
  exact bodyPost_ret (results_cell_row rfl _ _ (w.heap.size + 1) 60 _ _ _ rfl q4 Tryz.underlying60 rfl (by kernel_rfl)) rfl
    (call_end k4 HI.out HM.out hK.out (res_nil _ _ 0 0 0) ⟨fun e => absurd e (by decide), fun e => absurd e (by decide), fun e => absurd e (by decide), fun e => absurd e (by decide), fun e => absurd e (by decide)⟩)

set_option maxRecDepth 100000 in
set_option maxHeartbeats 4000000 in
theorem call_mem_6 (Pr : Nat → Prop) (w : World) (gm gz : Nat) (v : Value) (bs : List UInt8) (off size : Int) (da : Option Addr) (dn dc : Nat) (hin : Inw Pr w) (h : MemIs Pr w gm gz v bs) (va vb : Addr) (hV0 : Vars Pr w va vb) :
    Calls Tryz.prog 26 #[.iface 68 (.pointer (some ⟨gm, 0, none⟩)), .agg #[.int .i64 6, .int .i64 off, .int .i64 size, .slice da dn dc]] w
      (CallPost Pr w gm gz bs fun r => resOk bs 6 off size dn r) := by
  have H := Lib.hid h
  have HI := Lib.hid hin
  have V := Lib.hid hV0
  clear h hin hV0
  go_enter Tryz.func26, Tryz.ntmps26
  (repeat (first | go_values | go_skip | go_guarded | go_step | go_upon))
  have hW : Keeps (Old w) w (w2B w 6 off size da dn dc) := (Keeps.alloc (fun _ h => h) _).trans (Keeps.alloc (fun k (h : k < w.heap.size) => by simp; omega) _)
  have hs : (w2B w 6 off size da dn dc).heap.size = w.heap.size + 2 := by simp
  have hb0 : (w2B w 6 off size da dn dc).heap[w.heap.size]? = some (.cells #[.int .i64 6, .int .i64 off, .int .i64 size, .slice da dn dc] 42 (0, 0)) := heap_alloc2_old w _ _
  have hb1 : (w2B w 6 off size da dn dc).heap[w.heap.size + 1]? = some (.cells #[.int .i64 0, .slice none 0 0, .int .i64 0, .int .i64 0] 60 (0, 0)) := heap_alloc2_new w _ _
  change Calls Tryz.prog _ _ (w2B w 6 off size da dn dc) _
  generalize w2B w 6 off size da dn dc = W2 at *
  have h2 := H.out.kept hW (fun k hk _ => hk)
  obtain ⟨n, -, -, hm⟩ := h2.fm
  by_cases hn : n = 0
  · subst hn
    refine (mend_none W2 gm _ hm).mono ?_
    rintro e w3 ⟨o, rfl, rfl⟩
    have hk1 : Keeps (Old W2) W2 (W2.alloc o) := Keeps.alloc (fun _ h => h) o
    have hm1 := (H.out.boxed hW).1.kept hk1 (fun k hk _ => hk)
    replace hb1 := (hk1.block _ (show w.heap.size + 1 < W2.heap.size by omega)).trans hb1
    have hK := Lib.hid ((hW.mono HI.out).trans (hk1.mono fun k hp => Nat.lt_of_lt_of_le (HI.out k hp) hW.size))
    have hV := Lib.hid (V.out.keeps hK.out)
    generalize W2.alloc o = W3 at *
    have HB1 := Lib.hid hb1
    have HM := Lib.hid hm1
    clear hb0 hb1 hW hs h2 hm hm1 hk1
    obtain ⟨b0, b1⟩ := cells_at HB1.out
    have x0 := b0 0
    have x1 := b0 1
    have x2 := b0 2
    have x3 := b0 3
    have f0 := b1 0
    have f1 := b1 1
    have f2 := b1 2
    have f3 := b1 3
    simp only [List.getElem?_toArray, List.getElem?_cons_succ, List.getElem?_cons_zero] at x0 x1 x2 x3
    clear b0 b1
    dsimp only
    (repeat (first | go_values | go_skip | go_guarded | go_step | go_upon))
    refine (kind_perm Pr _ va vb _ hV.out).mono ?_
    rintro e w4 ⟨⟨qe, rfl⟩, rfl⟩
    dsimp only
    (repeat (first | go_values | go_skip | go_guarded | go_step | go_upon))
    have q0 := heap_set_same HB1.out 3 (.int .i64 qe)
    have k0 := (Keeps.setCell (Pr := fun k => k ≠ w.heap.size + 1) (a := ⟨w.heap.size + 1, 3, none⟩) (fun h => h rfl) (.int .i64 qe) : Keeps _ w4 _)
    have q1 := heap_set_same q0 0 (.int .i64 0)
    have k1 := k0.trans (Keeps.setCell (Pr := fun k => k ≠ w.heap.size + 1) (a := ⟨w.heap.size + 1, 0, none⟩) (fun h => h rfl) (.int .i64 0))
    have q2 := heap_set_same q1 1 (.slice none 0 0)
    have k2 := k1.trans (Keeps.setCell (Pr := fun k => k ≠ w.heap.size + 1) (a := ⟨w.heap.size + 1, 1, none⟩) (fun h => h rfl) (.slice none 0 0))
    have q3 := heap_set_same q2 2 (.int .i64 0)
    have k3 := k2.trans (Keeps.setCell (Pr := fun k => k ≠ w.heap.size + 1) (a := ⟨w.heap.size + 1, 2, none⟩) (fun h => h rfl) (.int .i64 0))
    have q4 := heap_set_same q3 3 (.int .i64 qe)
    have k4 := k3.trans (Keeps.setCell (Pr := fun k => k ≠ w.heap.size + 1) (a := ⟨w.heap.size + 1, 3, none⟩) (fun h => h rfl) (.int .i64 qe))
    exact bodyPost_ret (results_cell_row rfl _ _ (w.heap.size + 1) 60 _ _ _ rfl q4 Tryz.underlying60 rfl (by kernel_rfl)) rfl
      (call_end k4 HI.out HM.out hK.out (res_nil _ _ 0 0 qe) ⟨fun e => absurd e (by decide), fun e => absurd e (by decide), fun e => absurd e (by decide), fun e => absurd e (by decide), fun e => absurd e (by decide)⟩)

  · refine (mend_some W2 gm n _ hm hn).mono ?_
    rintro e w3 ⟨rfl, n', hn', rfl⟩
    obtain ⟨hm1, hk1⟩ := (H.out.boxed hW).1.nest n' hn'
    have hgm := H.out.lt
    replace hb1 := (hk1.block _ (show w.heap.size + 1 ≠ gm by omega)).trans hb1
    have hK := Lib.hid ((hW.mono HI.out).trans (hk1.mono fun k hp e => H.out.nm (e ▸ hp)))
    generalize W2.setCell ⟨gm, 1, none⟩ (.int .i64 n') = W3 at *
    have HB1 := Lib.hid hb1
    have HM := Lib.hid hm1
    clear hb0 hb1 hW hs h2 hm hm1 hk1 hgm hn
    obtain ⟨b0, b1⟩ := cells_at HB1.out
    have x0 := b0 0
    have x1 := b0 1
    have x2 := b0 2
    have x3 := b0 3
    have f0 := b1 0
    have f1 := b1 1
    have f2 := b1 2
    have f3 := b1 3
    simp only [List.getElem?_toArray, List.getElem?_cons_succ, List.getElem?_cons_zero] at x0 x1 x2 x3
    clear b0 b1
    dsimp only
    (repeat (first | go_values | go_skip | go_guarded | go_step | go_upon))
    refine (kind_nil _).mono ?_
    rintro e w4 ⟨rfl, rfl⟩
    dsimp only
    (repeat (first | go_values | go_skip | go_guarded | go_step | go_upon))
    have q0 := heap_set_same HB1.out 3 (.int .i64 0)
    have k0 := (Keeps.setCell (Pr := fun k => k ≠ w.heap.size + 1) (a := ⟨w.heap.size + 1, 3, none⟩) (fun h => h rfl) (.int .i64 0) : Keeps _ w4 _)
    have q1 := heap_set_same q0 0 (.int .i64 0)
    have k1 := k0.trans (Keeps.setCell (Pr := fun k => k ≠ w.heap.size + 1) (a := ⟨w.heap.size + 1, 0, none⟩) (fun h => h rfl) (.int .i64 0))
    have q2 := heap_set_same q1 1 (.slice none 0 0)
    have k2 := k1.trans (Keeps.setCell (Pr := fun k => k ≠ w.heap.size + 1) (a := ⟨w.heap.size + 1, 1, none⟩) (fun h => h rfl) (.slice none 0 0))
    have q3 := heap_set_same q2 2 (.int .i64 0)
    have k3 := k2.trans (Keeps.setCell (Pr := fun k => k ≠ w.heap.size + 1) (a := ⟨w.heap.size + 1, 2, none⟩) (fun h => h rfl) (.int .i64 0))
    have q4 := heap_set_same q3 3 (.int .i64 0)
    have k4 := k3.trans (Keeps.setCell (Pr := fun k => k ≠ w.heap.size + 1) (a := ⟨w.heap.size + 1, 3, none⟩) (fun h => h rfl) (.int .i64 0))
    exact bodyPost_ret (results_cell_row rfl _ _ (w.heap.size + 1) 60 _ _ _ rfl q4 Tryz.underlying60 rfl (by kernel_rfl)) rfl
      (call_end k4 HI.out HM.out hK.out (res_nil _ _ 0 0 0) ⟨fun e => absurd e (by decide), fun e => absurd e (by decide), fun e => absurd e (by decide), fun e => absurd e (by decide), fun e => absurd e (by decide)⟩)

set_option maxRecDepth 100000 in
set_option maxHeartbeats 4000000 in
theorem call_mem_2 (Pr : Nat → Prop) (w : World) (gm gz : Nat) (v : Value) (bs : List UInt8) (off : Int) (n : Nat) (da : Option Addr) (dn dc : Nat) (hn : n ≤ 10000000) (hin : Inw Pr w) (h : MemIs Pr w gm gz v bs) :
    Calls Tryz.prog 26 #[.iface 68 (.pointer (some ⟨gm, 0, none⟩)), .agg #[.int .i64 2, .int .i64 off, .int .i64 (n : Int), .slice da dn dc]] w
      (CallPost Pr w gm gz (resB bs n) fun r => resOk bs 2 off n dn r) := by
  have H := Lib.hid h
  have HI := Lib.hid hin
  clear h hin
  go_enter Tryz.func26, Tryz.ntmps26
  (repeat (first | go_values | go_skip | go_guarded | go_step | go_upon))
  have hW : Keeps (Old w) w (w2B w 2 off n da dn dc) := (Keeps.alloc (fun _ h => h) _).trans (Keeps.alloc (fun k (h : k < w.heap.size) => by simp; omega) _)
  have hs : (w2B w 2 off n da dn dc).heap.size = w.heap.size + 2 := by simp
  have hb0 : (w2B w 2 off n da dn dc).heap[w.heap.size]? = some (.cells #[.int .i64 2, .int .i64 off, .int .i64 (n : Int), .slice da dn dc] 42 (0, 0)) := heap_alloc2_old w _ _
  have hb1 : (w2B w 2 off n da dn dc).heap[w.heap.size + 1]? = some (.cells #[.int .i64 0, .slice none 0 0, .int .i64 0, .int .i64 0] 60 (0, 0)) := heap_alloc2_new w _ _
  change Calls Tryz.prog _ _ (w2B w 2 off n da dn dc) _
  generalize w2B w 2 off n da dn dc = W2 at *
  have h2 := H.out.kept hW (fun k hk _ => hk)
  have hbx := (H.out.boxed hW).1
  have hgm := H.out.lt
  have hinB : Inw (also (fun k => Pr k ∨ k = w.heap.size ∨ k = w.heap.size + 1) gm) W2 := fun k hk => by
    rcases hk with (h | h | h) | h
    · have := HI.out k h; omega
    · omega
    · omega
    · omega
  refine (mtrunc_of W2 gm gz _ _ h2.c0 (ztrunc_any _ W2 gz v bs n hinB hbx.zis2 hn)).mono ?_
  rintro e w3 ⟨rfl, v', hz, hk1⟩
  have hm1 := hbx.of_zis (hz.mono fun k h => .inl h) (hk1.block gm (.inr rfl))
  have hb1 := (hk1.block (w.heap.size + 1) (.inl (.inr (.inr rfl)))).trans hb1
  have hK := Lib.hid ((hW.mono HI.out).trans (hk1.mono fun k hp => .inl (.inl hp)))
  have HB1 := Lib.hid hb1
  have HM := Lib.hid hm1
  clear hb0 hb1 hW hs h2 hbx hz hm1 hk1 hgm hinB
  obtain ⟨b0, b1⟩ := cells_at HB1.out
  have x0 := b0 0
  have x1 := b0 1
  have x2 := b0 2
  have x3 := b0 3
  have f0 := b1 0
  have f1 := b1 1
  have f2 := b1 2
  have f3 := b1 3
  simp only [List.getElem?_toArray, List.getElem?_cons_succ, List.getElem?_cons_zero] at x0 x1 x2 x3
  clear b0 b1
  dsimp only
  (repeat (first | go_values | go_skip | go_guarded | go_step | go_upon))
  refine (kind_nil _).mono ?_
  rintro e w4 ⟨rfl, rfl⟩
  dsimp only
  (repeat (first | go_values | go_skip | go_guarded | go_step | go_upon))
  have q0 := heap_set_same HB1.out 3 (.int .i64 0)
  have k0 := (Keeps.setCell (Pr := fun k => k ≠ w.heap.size + 1) (a := ⟨w.heap.size + 1, 3, none⟩) (fun h => h rfl) (.int .i64 0) : Keeps _ w4 _)
  have q1 := heap_set_same q0 0 (.int .i64 0)
  have k1 := k0.trans (Keeps.setCell (Pr := fun k => k ≠ w.heap.size + 1) (a := ⟨w.heap.size + 1, 0, none⟩) (fun h => h rfl) (.int .i64 0))
  have q2 := heap_set_same q1 1 (.slice none 0 0)
  have k2 := k1.trans (Keeps.setCell (Pr := fun k => k ≠ w.heap.size + 1) (a := ⟨w.heap.size + 1, 1, none⟩) (fun h => h rfl) (.slice none 0 0))
  have q3 := heap_set_same q2 2 (.int .i64 0)
  have k3 := k2.trans (Keeps.setCell (Pr := fun k => k ≠ w.heap.size + 1) (a := ⟨w.heap.size + 1, 2, none⟩) (fun h => h rfl) (.int .i64 0))
  have q4 := heap_set_same q3 3 (.int .i64 0)
  have k4 := k3.trans (Keeps.setCell (Pr := fun k => k ≠ w.heap.size + 1) (a := ⟨w.heap.size + 1, 3, none⟩) (fun h => h rfl) (.int .i64 0))
  exact bodyPost_ret (results_cell_row rfl _ _ (w.heap.size + 1) 60 _ _ _ rfl q4 Tryz.underlying60 rfl (by kernel_rfl)) rfl
    (call_end k4 HI.out HM.out hK.out (res_nil _ _ 0 0 0) ⟨fun e => absurd e (by decide), fun e => absurd e (by decide), fun _ => rfl, fun e => absurd e (by decide), fun e => absurd e (by decide)⟩)


end Go.Proofs.YtkkliejgmgmebaaGreatDoor
