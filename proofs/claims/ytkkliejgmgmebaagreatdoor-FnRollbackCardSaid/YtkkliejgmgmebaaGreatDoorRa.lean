/-
  The map of pages: keys int64, elements pointers to blocks of their own.
-/
import Derived.Test.YtkkliejgmgmebaaGreatDoorSa
import Derived.Maps.RangeWalk
import Derived.Test.YtkkliejgmgmebaaGreatDoorM8
import Derived.Laws.BitsAllLaws
import Derived.Laws.Bits64
namespace Go.Proofs.YtkkliejgmgmebaaGreatDoor
open Go.RowKit Go.WideShapes
open Go.Maps (Keyed)
open Go.WideElems (Fit rd rg rd_key rd_val rg_of)

theorem pigeon : ∀ (N : Nat) (l : List Nat), l.Nodup → (∀ x ∈ l, x < N) → l.length ≤ N
  | 0, l, _, hb => by
    cases l with
    | nil => exact Nat.le_refl _
    | cons x l => exact absurd (hb x (List.mem_cons_self ..)) (Nat.not_lt_zero _)
  | N + 1, l, hn, hb => by
    by_cases hm : N ∈ l
    · have h1 := List.length_erase_of_mem hm
      have h2 := pigeon N (l.erase N) (hn.erase N) fun x hx => by
        have h3 := (List.Nodup.mem_erase_iff hn).1 hx
        have := hb x h3.2
        have := h3.1
        omega
      omega
    · have h2 := pigeon N l hn fun x hx => by
        have := hb x hx
        have : x ≠ N := fun e => hm (e ▸ hx)
        omega
      omega

/-- how an element reads: its block's number -/
def ptrElem (v : Value) : Option (DataW Unit × List MemPlace) := match v with
  | .pointer (some ⟨g, 0, none⟩) => some (.lit (.int .u64 (g : Int)), [])
  | _ => none

theorem ptrElem_mk (g : Nat) : ptrElem (.pointer (some ⟨g, 0, none⟩)) = some (.lit (.int .u64 (g : Int)), []) := rfl
theorem ptrElem_inv {v : Value} {y : DataW Unit × List MemPlace} (h : ptrElem v = some y) : ∃ g : Nat, v = .pointer (some ⟨g, 0, none⟩) ∧ y.1 = .lit (.int .u64 (g : Int)) := by
  unfold ptrElem at h
  split at h
  · rename_i g
    cases h
    exact ⟨g, rfl, rfl⟩
  · cases h

theorem law64 : Keyed Tryz.prog 2 := Maps.int_keyed Tryz.underlying2

theorem isKey64 (z : Int) : WideAt.IsKeyLit (.int .i64 z) := trivial

theorem wf64 {z : Int} (h0 : -9223372036854775808 ≤ z) (h1 : z ≤ 9223372036854775807) : (Lit.int .i64 z).wf = true := by
  simp only [Lit.wf, Bool.and_eq_true, decide_eq_true_eq]
  exact ⟨h0, h1⟩

theorem key64 {p : Nat} (hp : p ≤ 9223372036854775807) : keyOf Tryz.prog 2 (.int .i64 (p : Int)) = some (.int .i64 (p : Int)) :=
  Maps.keyOf_int_mk Tryz.underlying2 (wf64 (by omega) (by omega))

/-- what the map's datum says: which block is at which page -/
structure View (D : DataW Unit) (f : Nat → Option Nat) : Prop where
  lt : ∀ p, f p ≠ none → p < 73
  has : ∀ z : Int, Maps.has D (.int .i64 z) = true → ∃ p : Nat, z = (p : Int) ∧ f p ≠ none
  at' : ∀ p g, f p = some g → ∀ zd, D.atKey (.int .i64 (p : Int)) zd = .lit (.int .u64 (g : Int))

theorem View.hit {D : DataW Unit} {f : Nat → Option Nat} (h : View D f) {p : Nat} {y : DataW Unit} (hat : ∀ zd, D.atKey (.int .i64 (p : Int)) zd = y) : ∃ g, f p = some g ∧ y = .lit (.int .u64 (g : Int)) := by
  obtain ⟨q, e, hq⟩ := h.has p (Maps.has_true_of_atKey hat)
  obtain rfl : p = q := by omega
  cases hf : f p with
  | none => exact absurd hf hq
  | some g => exact ⟨g, rfl, (hat .nil).symm.trans (h.at' p g hf .nil)⟩

theorem View.miss {D : DataW Unit} {f : Nat → Option Nat} (h : View D f) {p : Nat} (hat : ∀ zd, D.atKey (.int .i64 (p : Int)) zd = zd) : f p = none := by
  cases hf : f p with
  | none => rfl
  | some g =>
    have h1 := Maps.has_false_of_atKey hat
    have h2 := Maps.has_true_of_atKey (h.at' p g hf)
    rw [h1] at h2
    cases h2

/-- block b is a map of pages -/
def MapIs (w : World) (b : Nat) (f : Nat → Option Nat) : Prop := ∃ D, w.ownsMap Tryz.prog 2 ptrElem b 1000 D ∧ View D f

theorem int_inj {x y : Nat} (h : Lit.int .u64 (x : Int) = Lit.int .u64 (y : Int)) : x = y := by
  have := (Lit.int.injEq ..).mp h
  omega

/-- few keys: few entries -/
theorem tight {w : World} {b n : Nat} {D : DataW Unit} {f : Nat → Option Nat} (h : w.ownsMap Tryz.prog 2 ptrElem b n D) (hv : View D f) : w.ownsMap Tryz.prog 2 ptrElem b 1000 D := by
  obtain ⟨es, hD, hpw, -⟩ := h.entries law64
  have hint : ∀ p ∈ es, ∃ q : Nat, p.1 = .int .i64 (q : Int) ∧ q < 1000 := by
    intro p hp
    obtain ⟨es0, clock, hb, F, hs, e0⟩ := h
    rw [hD] at e0
    injection e0 with e0
    rw [e0] at hp
    obtain ⟨x, hx, hxe⟩ := List.mem_map.1 (mem_sorted.1 hp)
    obtain ⟨y, hy⟩ := F.reads x hx
    rw [rg_of hy] at hxe
    subst hxe
    obtain ⟨z, -, hz, -⟩ := Maps.keyOf_int_inv Tryz.underlying2 (rd_key hy)
    have hh : Maps.has D (.int .i64 z) = true := by
      rw [hD]
      refine List.any_eq_true.2 ⟨y, by rw [e0]; exact hp, ?_⟩
      rw [hz]
      exact WideAt.sameKey_self (isKey64 _)
    obtain ⟨q, e, hq⟩ := hv.has z hh
    exact ⟨q, by rw [hz, e], by have := hv.lt q hq; omega⟩
  have hlen : es.length ≤ 1000 := by
    have hl : (es.map fun p => match p.1 with | .int _ z => z.toNat | _ => 0).length ≤ 1000 := by
      refine pigeon 1000 _ ?_ ?_
      · rw [List.Nodup, List.pairwise_map]
        refine List.Pairwise.imp_of_mem ?_ hpw
        intro p q hp hq hne e
        obtain ⟨a, ha, -⟩ := hint p hp
        obtain ⟨c, hc, -⟩ := hint q hq
        rw [ha, hc] at e
        simp only [Int.toNat_natCast] at e
        exact hne (by rw [ha, hc, e])
      · intro x hx
        obtain ⟨p, hp, rfl⟩ := List.mem_map.1 hx
        obtain ⟨a, ha, hlt⟩ := hint p hp
        rw [ha]
        simpa using hlt
    simpa using hl
  obtain ⟨es0, clock, hb, F, hs, e0⟩ := h
  refine ⟨es0, clock, hb, F, ?_, e0⟩
  rw [hD] at e0
  injection e0 with e0
  rw [e0, length_sorted] at hlen
  simpa using hlen

section
variable {w : World} {b : Nat} {f : Nat → Option Nat}

theorem zeroPage (w : World) : (zeroValue 150).run Tryz.prog w = .ok (.pointer none) w := by kernel_rfl

def ptrO : Option Nat → Value
  | none => .pointer none
  | some g => .pointer (some ⟨g, 0, none⟩)

theorem MapIs.look (h : MapIs w b f) {p : Nat} (hp : p ≤ 9223372036854775807) :
    (Instr.lookup 138 (.map (some b)) (.int .i64 (p : Int)) false).run Tryz.prog w = .ok (ptrO (f p)) w ∧
    (Instr.lookup 138 (.map (some b)) (.int .i64 (p : Int)) true).run Tryz.prog w = .ok (.tuple #[ptrO (f p), .bool (f p).isSome]) w := by
  obtain ⟨D, ⟨es, clock, hb, F, hs, rfl⟩, hv⟩ := h
  have aux : ∀ c : Bool, (Instr.lookup 138 (.map (some b)) (.int .i64 (p : Int)) c).run Tryz.prog w = .ok (if c then .tuple #[ptrO (f p), .bool (f p).isSome] else ptrO (f p)) w := by
    intro c
    rcases Maps.fit_look c law64 Tryz.underlying138 (zeroPage w) hb F (key64 hp) with ⟨hrun, -, hat⟩ | ⟨e0, y, -, -, hrun, hR, hat, -⟩
    · have e := hv.miss hat
      cases c
      · simpa [e, ptrO] using hrun
      · simpa [e, ptrO] using hrun
    · obtain ⟨g, hg, hy⟩ := hv.hit hat
      obtain ⟨g2, hg2, hy2⟩ := ptrElem_inv hR
      obtain rfl := int_inj (DataW.lit.inj (hy.symm.trans hy2))
      rw [hg2] at hrun
      cases c
      · simpa [hg, ptrO] using hrun
      · simpa [hg, ptrO] using hrun
  exact ⟨by simpa using aux false, by simpa using aux true⟩

/-- f with g at p -/
def setF (f : Nat → Option Nat) (p : Nat) (x : Option Nat) : Nat → Option Nat := fun q => if q = p then x else f q

theorem key_ne {p q : Nat} (h : q ≠ p) : (Lit.int .i64 (q : Int)) ≠ Lit.int .i64 (p : Int) := fun e => by
  have := (Lit.int.injEq ..).mp e
  omega

theorem MapIs.put (h : MapIs w b f) {p g : Nat} (hp : p < 73) :
    ∃ w', (Instr.mapUpdate 138 (.map (some b)) (.int .i64 (p : Int)) (.pointer (some ⟨g, 0, none⟩))).run Tryz.prog w = .ok () w' ∧ MapIs w' b (setF f p (some g)) ∧ w.grownBy w' (some b) := by
  obtain ⟨D, ho, hv⟩ := h
  obtain ⟨w', hrun, ho', hg⟩ := ho.update law64 Tryz.underlying138 (by unfold maxLen; omega) (key64 (p := p) (by omega)) (ptrElem_mk g)
  have hv' : View (D.put (.int .i64 (p : Int)) (.lit (.int .u64 (g : Int)))) (setF f p (some g)) := by
    refine ⟨fun q hq => ?_, fun z hz => ?_, fun q g' hq zd => ?_⟩
    · unfold setF at hq
      split at hq
      · omega
      · exact hv.lt q hq
    · by_cases e : z = (p : Int)
      · exact ⟨p, e, by unfold setF; rw [if_pos rfl]; simp⟩
      · rw [Maps.has_put_other (fun e2 => e (by have := (Lit.int.injEq ..).mp e2; omega))] at hz
        obtain ⟨q, rfl, hq⟩ := hv.has z hz
        exact ⟨q, rfl, by unfold setF; rw [if_neg (by omega)]; exact hq⟩
    · unfold setF at hq
      split at hq
      · rename_i e
        subst e
        cases hq
        exact Maps.atKey_put_same ho.isMap (isKey64 _) _ _
      · rename_i e
        rw [Maps.atKey_put_other (key_ne e)]
        exact hv.at' q g' hq zd
  exact ⟨w', hrun, ⟨_, tight ho' hv', hv'⟩, hg⟩

theorem MapIs.del (h : MapIs w b f) {p : Nat} (hp : p ≤ 9223372036854775807) (ty : TypeId) :
    ∃ w', (Builtin.delete_ #[138, 2] ty #[.map (some b), .int .i64 (p : Int)]).run Tryz.prog w = .ok (.tuple #[]) w' ∧ MapIs w' b (setF f p none) ∧ w.grownBy w' (some b) := by
  obtain ⟨D, ho, hv⟩ := h
  obtain ⟨w', hrun, ho', ht⟩ := ho.drop law64 Tryz.underlying138 (key64 hp) ty
  refine ⟨w', hrun, ⟨_, ho', fun q hq => ?_, fun z hz => ?_, fun q g' hq zd => ?_⟩, ht.grown⟩
  · unfold setF at hq
    split at hq
    · exact absurd rfl hq
    · exact hv.lt q hq
  · by_cases e : z = (p : Int)
    · subst e
      rw [Maps.has_del_same] at hz
      cases hz
    · rw [Maps.has_del_other (fun e2 => e (by have := (Lit.int.injEq ..).mp e2; omega))] at hz
      obtain ⟨q, rfl, hq⟩ := hv.has z hz
      exact ⟨q, rfl, by unfold setF; rw [if_neg (by omega)]; exact hq⟩
  · unfold setF at hq
    split at hq
    · cases hq
    · rename_i e
      rw [Maps.atKey_del_other (key_ne e)]
      exact hv.at' q g' hq zd

theorem MapIs.made (w : World) : MapIs (w.alloc (.map #[] 0)) w.heap.size (fun _ => none) := by
  refine ⟨_, (World.ownsMap_made w Tryz.prog 2 ptrElem).mono (Nat.zero_le _), fun p h => absurd rfl h, fun z h => ?_, fun p g h => by cases h⟩
  simp [Maps.has] at h

theorem MapIs.kept {w' : World} (h : MapIs w b f) (hb : w'.heap[b]? = w.heap[b]?) : MapIs w' b f := by
  obtain ⟨D, ⟨es, clock, h1, h2⟩, hv⟩ := h
  exact ⟨D, ⟨es, clock, hb.trans h1, h2⟩, hv⟩

theorem MapIs.isMap (h : MapIs w b f) : ∃ es c, w.heap[b]? = some (.map es c) := by
  obtain ⟨D, ⟨es, clock, h1, -⟩, -⟩ := h
  exact ⟨es, clock, h1⟩

theorem MapIs.lt (h : MapIs w b f) {p : Nat} (hp : f p ≠ none) : p < 73 := by
  obtain ⟨D, -, hv⟩ := h
  exact hv.lt p hp

/-- a range over the map, under way: which pages are still to come -/
def MRange (w : World) (b r : Nat) (f : Nat → Option Nat) (left : Nat → Bool) (cnt : Nat) : Prop :=
  ∃ D lf, w.ranges Tryz.prog 2 ptrElem b r 1000 D lf cnt ∧ View D f ∧ (∀ p : Nat, lf (.int .i64 (p : Int)) = left p) ∧ ∀ z : Int, lf (.int .i64 z) = true → ∃ p : Nat, z = (p : Int)

theorem MapIs.range (h : MapIs w b f) :
    ∃ w' cnt, (Instr.range 138 (.map (some b))).run Tryz.prog w = .ok (.pointer (some ⟨w.heap.size, 0, none⟩)) w' ∧ MRange w' b w.heap.size f (fun p => (f p).isSome) cnt ∧ w.grownBy w' none ∧ w'.heap.size = w.heap.size + 1 := by
  obtain ⟨D, ho, hv⟩ := h
  obtain ⟨w', hrun, hr, hg, hs⟩ := ho.range law64 Tryz.underlying138
  refine ⟨w', _, hrun, ⟨D, _, hr, hv, fun p => ?_, fun z hz => ?_⟩, hg, hs⟩
  · cases hf : f p with
    | none =>
      cases hh : Maps.has D (.int .i64 (p : Int))
      · simp [hf]
      · obtain ⟨q, e, hq⟩ := hv.has _ hh
        obtain rfl : p = q := by omega
        exact absurd hf hq
    | some g => simpa [hf] using Maps.has_true_of_atKey (hv.at' p g hf)
  · obtain ⟨p, e, -⟩ := hv.has z hz
    exact ⟨p, e⟩

theorem MRange.next {r cnt : Nat} {left : Nat → Bool} (h : MRange w b r f left cnt) (ty : TypeId) :
    ((∀ p, left p = false) ∧ (Instr.next (.pointer (some ⟨r, 0, none⟩)) false ty).run Tryz.prog w = .ok (.tuple #[.bool false]) w) ∨
    ∃ p g w' cnt', left p = true ∧ f p = some g ∧ (Instr.next (.pointer (some ⟨r, 0, none⟩)) false ty).run Tryz.prog w = .ok (.tuple #[.bool true, .int .i64 (p : Int), .pointer (some ⟨g, 0, none⟩)]) w' ∧
      MRange w' b r f (fun q => left q && decide (q ≠ p)) cnt' ∧ cnt' < cnt ∧ w.grownBy w' (some r) ∧ w'.heap.size = w.heap.size ∧
      (Instr.entry (.pointer (some ⟨r, 0, none⟩))).run Tryz.prog w' = .ok (.tuple #[.int .i64 (p : Int), .pointer (some ⟨g, 0, none⟩)]) w' := by
  obtain ⟨D, lf, hr, hv, hl, hz⟩ := h
  rcases hr.next law64 ty with ⟨-, h0, hrun⟩ | ⟨key, v, kl, y, w', cnt', hkey, hlk, hR, hat, hrun, hr', hlt, hg, hs, hen⟩
  · exact .inl ⟨fun p => by rw [← hl p]; exact h0 _, hrun⟩
  · obtain ⟨z, rfl, rfl, -⟩ := Maps.keyOf_int_inv Tryz.underlying2 hkey
    obtain ⟨p, rfl⟩ := hz z hlk
    obtain ⟨g, rfl, hy⟩ := ptrElem_inv hR
    obtain ⟨g2, hg2, hy2⟩ := hv.hit hat
    obtain rfl := int_inj (DataW.lit.inj (hy.symm.trans hy2))
    refine .inr ⟨p, g, w', cnt', by rw [← hl p]; exact hlk, hg2, hrun, ⟨D, _, hr', hv, fun q => ?_, fun z hz2 => hz z (by simp at hz2; exact hz2.1)⟩, hlt, hg, hs, hen⟩
    rw [hl q]
    by_cases e : q = p
    · subst e
      rw [WideAt.sameKey_self (isKey64 _)]
      simp
    · rw [Maps.sameKey_ne (key_ne e)]
      simp [e]

theorem MRange.kept {w' : World} {r cnt : Nat} {left : Nat → Bool} (h : MRange w b r f left cnt) (hb : w'.heap[b]? = w.heap[b]?) (hr : w'.heap[r]? = w.heap[r]?) : MRange w' b r f left cnt := by
  obtain ⟨D, lf, ⟨es, clock, since, seen, c0, h1, h2, h3, h4, h5, h6⟩, hv⟩ := h
  exact ⟨D, lf, ⟨es, clock, since, seen, c0, hb.trans h1, h2, h3, h4, hr.trans h5, h6⟩, hv⟩

theorem MRange.map {r cnt : Nat} {left : Nat → Bool} (h : MRange w b r f left cnt) : MapIs w b f := by
  obtain ⟨D, lf, hr, hv, -⟩ := h
  exact ⟨D, hr.owns, hv⟩
theorem MRange.rlt {r cnt : Nat} {left : Nat → Bool} (h : MRange w b r f left cnt) : r < w.heap.size := by
  obtain ⟨D, lf, hr, -⟩ := h
  exact hr.lt
theorem MRange.iter {r cnt : Nat} {left : Nat → Bool} (h : MRange w b r f left cnt) : ∃ m s l c, w.heap[r]? = some (.mapIter m s l c) := by
  obtain ⟨D, lf, ⟨es, clock, since, seen, c0, h1, h2, h3, h4, h5, h6⟩, hv⟩ := h
  exact ⟨_, _, _, _, h5⟩
end

end Go.Proofs.YtkkliejgmgmebaaGreatDoor

namespace Go.Proofs.YtkkliejgmgmebaaGreatDoor
open Go.RowKit

/-- a page: its block, the block of its bytes, these, whether it was written, the links -/
structure Pg where
  g : Nat
  r : Nat
  bs : List UInt8
  dirty : Bool
  pv : Option Nat
  nx : Option Nat

/-- a level: its block, the block of its map, its size, its pages -/
structure Lv where
  b : Nat
  m : Nat
  size : Nat
  f : Nat → Option Pg

/-- the file in memory, and the levels 1 .. t over it -/
structure St where
  gm : Nat
  gz : Nat
  v : Value
  fb : List UInt8
  t : Nat
  L : Nat → Lv

/-- the size of level k -/
def St.size (S : St) : Nat → Nat
  | 0 => S.fb.length
  | k + 1 => (S.L (k + 1)).size

/-- the byte that level k sees at place i, whatever its size -/
def St.raw (S : St) : Nat → Nat → UInt8
  | 0, i => S.fb.getD i 0
  | k + 1, i => match (S.L (k + 1)).f (i / 4096) with
    | some x => x.bs.getD (i % 4096) 0
    | none => if i < S.size k then S.raw k i else 0

/-- was page p of level k written? -/
def St.dirty (S : St) (k p : Nat) : Bool := match (S.L k).f p with
  | some x => x.dirty
  | none => false

/-- level k as a Filer -/
def St.par (S : St) : Nat → Value
  | 0 => .iface 68 (.pointer (some ⟨S.gm, 0, none⟩))
  | k + 1 => .iface 105 (.pointer (some ⟨(S.L (k + 1)).b, 0, none⟩))

/-- bytes that level k sees from off on -/
def St.rd (S : St) (k off d : Nat) : List UInt8 := (List.range d).map fun i => S.raw k (off + i)

theorem St.rd_length (S : St) (k off d : Nat) : (S.rd k off d).length = d := by simp [St.rd]

abbrev NoP : Nat → Prop := fun _ => False

/-- a page in memory -/
structure PageAt (w : World) (x : Pg) : Prop where
  cell : ∃ pd : Option Addr, w.heap[x.g]? = some (.cells #[ptrO x.pv, ptrO x.nx, .pointer pd, .slice (some ⟨x.r, 0, none⟩) 4096 4096, .bool x.dirty] 153 (0, 0))
  row : Row NoP w 5 1 (.slice (some ⟨x.r, 0, none⟩) 4096 4096) 4096 (u8s x.bs)

theorem PageAt.len {w : World} {x : Pg} (h : PageAt w x) : x.bs.length = 4096 := by
  have := h.row.1
  simpa using this
theorem PageAt.glt {w : World} {x : Pg} (h : PageAt w x) : x.g < w.heap.size := by
  obtain ⟨pd, hc⟩ := h.cell
  exact lt_of_heap hc
theorem PageAt.rlt {w : World} {x : Pg} (h : PageAt w x) : x.r < w.heap.size := (h.row.own (k := x.r) rfl).1
theorem PageAt.kept {w w' : World} {x : Pg} (h : PageAt w x) (hg : w'.heap[x.g]? = w.heap[x.g]?) (hr : w'.heap[x.r]? = w.heap[x.r]?) : PageAt w' x := by
  obtain ⟨pd, hc⟩ := h.cell
  refine ⟨⟨pd, hg.trans hc⟩, h.row.kept fun k hk => ?_⟩
  simp only [Value.ownBlock, Option.some.injEq] at hk
  subst hk
  exact hr

/-- a level in memory; tg: to which level (and page) a block belongs -/
structure LvIs (tg : Nat → Nat × Nat) (w : World) (k : Nat) (par : Value) (L : Lv) : Prop where
  cb : w.heap[L.b]? = some (.cells #[par, .map (some L.m), .int .i64 (L.size : Int)] 140 (0, 0))
  tb : (tg L.b).1 = k
  tm : (tg L.m).1 = k
  map : MapIs w L.m (fun p => (L.f p).map Pg.g)
  page : ∀ p x, L.f p = some x → PageAt w x ∧ tg x.g = (k, p) ∧ tg x.r = (k, p)
  sz : L.size ≤ 299008

theorem LvIs.blt {tg : Nat → Nat × Nat} {w : World} {k : Nat} {par : Value} {L : Lv} (h : LvIs tg w k par L) : L.b < w.heap.size := lt_of_heap h.cb
theorem LvIs.mlt {tg : Nat → Nat × Nat} {w : World} {k : Nat} {par : Value} {L : Lv} (h : LvIs tg w k par L) : L.m < w.heap.size := by
  obtain ⟨es, c, hm⟩ := h.map.isMap
  exact lt_of_heap hm

theorem LvIs.kept {tg tg' : Nat → Nat × Nat} {w w' : World} {k : Nat} {par : Value} {L : Lv} (h : LvIs tg w k par L) (hk : ∀ j, j < w.heap.size → (tg j).1 = k → w'.heap[j]? = w.heap[j]?) (ht : ∀ j, j < w.heap.size → (tg j).1 = k → tg' j = tg j) : LvIs tg' w' k par L := by
  refine ⟨(hk _ h.blt h.tb).trans h.cb, by rw [ht _ h.blt h.tb]; exact h.tb, by rw [ht _ h.mlt h.tm]; exact h.tm, h.map.kept (hk _ h.mlt h.tm), fun p x hx => ?_, h.sz⟩
  obtain ⟨h1, h2, h3⟩ := h.page p x hx
  exact ⟨h1.kept (hk _ h1.glt (by rw [h2])) (hk _ h1.rlt (by rw [h3])), by rw [ht _ h1.glt (by rw [h2])]; exact h2, by rw [ht _ h1.rlt (by rw [h3])]; exact h3⟩

/-- no page is linked -/
def Lv.Plain (L : Lv) : Prop := ∀ p x, L.f p = some x → x.pv = none ∧ x.nx = none
def St.Plain (S : St) : Prop := ∀ k, k < S.t → (S.L (k + 1)).Plain

/-- the file and the levels in memory -/
structure StIs (tg : Nat → Nat × Nat) (w : World) (S : St) : Prop where
  mem : MemIs (fun j => (tg j).1 ≠ 0) w S.gm S.gz S.v S.fb
  lv : ∀ k, k < S.t → LvIs tg w (k + 1) (S.par k) (S.L (k + 1))
  fb : S.fb.length ≤ 299008
  tt : S.t ≤ 30
  pl : S.Plain

theorem MemIs.retag {tg tg' : Nat → Nat × Nat} {w w' : World} {gm gz : Nat} {v : Value} {bs : List UInt8} (h : MemIs (fun j => (tg j).1 ≠ 0) w gm gz v bs) (hk : ∀ j, j < w.heap.size → (tg j).1 = 0 → w'.heap[j]? = w.heap[j]?) (ht : ∀ j, j < w.heap.size → (tg j).1 = 0 → tg' j = tg j) : MemIs (fun j => (tg' j).1 ≠ 0) w' gm gz v bs := by
  obtain ⟨n, h0, h1, hm⟩ := h.fm
  have a1 : gm < w.heap.size := lt_of_heap hm
  have a2 : gz < w.heap.size := lt_of_heap h.fz
  have b1 : (tg gm).1 = 0 := Classical.byContradiction h.nm
  have b2 : (tg gz).1 = 0 := Classical.byContradiction h.nz
  refine ⟨⟨n, h0, h1, (hk _ a1 b1).trans hm⟩, (hk _ a2 b2).trans h.fz, fun hn => hn (by rw [ht _ a1 b1]; exact b1), fun hn => hn (by rw [ht _ a2 b2]; exact b2), ?_⟩
  have hr := h.row.kept (w' := w') fun j hj => hk j (h.row.own hj).1 (Classical.byContradiction (h.row.own hj).2.1)
  refine hr.widen fun j hj hn => hn ?_
  rw [ht _ (h.row.own hj).1 (Classical.byContradiction (h.row.own hj).2.1)]
  exact Classical.byContradiction (h.row.own hj).2.1

/-- what changes no block of the levels' -/
theorem StIs.kept {tg tg' : Nat → Nat × Nat} {w w' : World} {S : St} (h : StIs tg w S) (hk : ∀ j, j < w.heap.size → (tg j).1 ≤ S.t → w'.heap[j]? = w.heap[j]?) (ht : ∀ j, j < w.heap.size → (tg j).1 ≤ S.t → tg' j = tg j) : StIs tg' w' S :=
  ⟨h.mem.retag (fun j h1 h2 => hk j h1 (by omega)) (fun j h1 h2 => ht j h1 (by omega)), fun k hlt => (h.lv k hlt).kept (fun j h1 h2 => hk j h1 (by omega)) (fun j h1 h2 => ht j h1 (by omega)), h.fb, h.tt, h.pl⟩

/-- more pages are there at levels 1 .. k; the bytes are the same -/
structure Loads (k : Nat) (S S' : St) : Prop where
  gm : S'.gm = S.gm
  gz : S'.gz = S.gz
  v : S'.v = S.v
  fb : S'.fb = S.fb
  t : S'.t = S.t
  up : ∀ j, k < j → S'.L j = S.L j
  b : ∀ j, (S'.L j).b = (S.L j).b
  m : ∀ j, (S'.L j).m = (S.L j).m
  sz : ∀ j, (S'.L j).size = (S.L j).size
  raw : ∀ j i, S'.raw j i = S.raw j i
  dirty : ∀ j p, S'.dirty j p = S.dirty j p

theorem Loads.refl (k : Nat) (S : St) : Loads k S S := ⟨rfl, rfl, rfl, rfl, rfl, fun _ _ => rfl, fun _ => rfl, fun _ => rfl, fun _ => rfl, fun _ _ => rfl, fun _ _ => rfl⟩
theorem Loads.trans {k : Nat} {S S' S'' : St} (h : Loads k S S') (h' : Loads k S' S'') : Loads k S S'' :=
  ⟨h'.gm.trans h.gm, h'.gz.trans h.gz, h'.v.trans h.v, h'.fb.trans h.fb, h'.t.trans h.t, fun j hj => (h'.up j hj).trans (h.up j hj), fun j => (h'.b j).trans (h.b j), fun j => (h'.m j).trans (h.m j), fun j => (h'.sz j).trans (h.sz j),
    fun j i => (h'.raw j i).trans (h.raw j i), fun j p => (h'.dirty j p).trans (h.dirty j p)⟩
theorem Loads.mono {k k' : Nat} {S S' : St} (h : Loads k S S') (hk : k ≤ k') : Loads k' S S' :=
  ⟨h.gm, h.gz, h.v, h.fb, h.t, fun j hj => h.up j (by omega), h.b, h.m, h.sz, h.raw, h.dirty⟩
theorem Loads.size {k : Nat} {S S' : St} (h : Loads k S S') (j : Nat) : S'.size j = S.size j := by
  cases j with
  | zero => show S'.fb.length = S.fb.length; rw [h.fb]
  | succ j => exact h.sz (j + 1)
theorem Loads.par {k : Nat} {S S' : St} (h : Loads k S S') (j : Nat) : S'.par j = S.par j := by
  cases j with
  | zero => show Value.iface _ _ = .iface _ _; rw [h.gm]
  | succ j => show Value.iface _ (.pointer (some ⟨(S'.L (j + 1)).b, 0, none⟩)) = .iface _ (.pointer (some ⟨(S.L (j + 1)).b, 0, none⟩)); rw [h.b]
theorem Loads.rd {k : Nat} {S S' : St} (h : Loads k S S') (j off d : Nat) : S'.rd j off d = S.rd j off d := by
  unfold St.rd
  exact List.map_congr_left fun i _ => h.raw j _

/-- level k with page p set -/
def Lv.set (L : Lv) (p : Nat) (x : Pg) : Lv := { L with f := fun q => if q = p then some x else L.f q }
def St.setL (S : St) (k : Nat) (L : Lv) : St := { S with L := fun j => if j = k then L else S.L j }

theorem Lv.Plain.set {L : Lv} (h : L.Plain) {p : Nat} {x : Pg} (hx : x.pv = none ∧ x.nx = none) : (L.set p x).Plain := by
  intro q y hy
  unfold Lv.set at hy
  dsimp only at hy
  split at hy
  · cases hy; exact hx
  · exact h q y hy
theorem St.Plain.setL {S : St} (h : S.Plain) {K : Nat} {L : Lv} (hL : L.Plain) : (S.setL K L).Plain := by
  intro k hk
  show (if k + 1 = K then L else S.L (k + 1)).Plain
  split
  · exact hL
  · exact h k hk

theorem St.setL_same (S : St) (k : Nat) (L : Lv) : (S.setL k L).L k = L := if_pos rfl
theorem St.setL_other (S : St) {k j : Nat} (L : Lv) (h : j ≠ k) : (S.setL k L).L j = S.L j := if_neg h

theorem St.setL_size (S : St) {k : Nat} (L : Lv) (hs : L.size = (S.L k).size) (j : Nat) : (S.setL k L).size j = S.size j := by
  cases j with
  | zero => rfl
  | succ j =>
    show ((S.setL k L).L (j + 1)).size = (S.L (j + 1)).size
    by_cases e : j + 1 = k
    · subst e; rw [St.setL_same, hs]
    · rw [St.setL_other S L e]

/-- level k sees otherwise: what the levels over it see hangs on that alone -/
theorem St.raw_below (S : St) (k : Nat) (L : Lv) : ∀ j, j < k → (∀ i, (S.setL k L).raw j i = S.raw j i) ∧ (S.setL k L).size j = S.size j
  | 0, _ => ⟨fun _ => rfl, rfl⟩
  | j + 1, h => by
    obtain ⟨ih1, ih2⟩ := St.raw_below S k L j (by omega)
    have e := St.setL_other S L (show j + 1 ≠ k by omega)
    refine ⟨fun i => ?_, by show ((S.setL k L).L (j + 1)).size = _; rw [e]; rfl⟩
    unfold St.raw
    rw [e, ih1 i, ih2]

theorem St.raw_above (S : St) (k : Nat) (L : Lv) (hs : L.size = (S.L k).size) (hr : ∀ i, (S.setL k L).raw k i = S.raw k i) : ∀ j i, (S.setL k L).raw j i = S.raw j i
  | 0, i => rfl
  | j + 1, i => by
    by_cases hj : j + 1 < k
    · exact (St.raw_below S k L (j + 1) hj).1 i
    by_cases e : j + 1 = k
    · subst e; exact hr i
    · have ih := St.raw_above S k L hs hr j
      have e2 := St.setL_other S L e
      have e3 := St.setL_size S L hs j
      unfold St.raw
      rw [e2, ih i, e3]

/-- a page is loaded: what it holds is what was seen there -/
theorem Loads.page {S : St} {k p : Nat} {x : Pg} (hn : (S.L (k + 1)).f p = none) (hd : x.dirty = false) (hx : ∀ i, i < 4096 → x.bs.getD i 0 = if p * 4096 + i < S.size k then S.raw k (p * 4096 + i) else 0) : Loads (k + 1) S (S.setL (k + 1) ((S.L (k + 1)).set p x)) := by
  have e1 := St.setL_same S (k + 1) ((S.L (k + 1)).set p x)
  refine ⟨rfl, rfl, rfl, rfl, rfl, fun j hj => St.setL_other S _ (by omega), fun j => ?_, fun j => ?_, fun j => ?_, ?_, fun j q => ?_⟩
  · by_cases e : j = k + 1
    · subst e; rw [e1]; rfl
    · rw [St.setL_other S _ e]
  · by_cases e : j = k + 1
    · subst e; rw [e1]; rfl
    · rw [St.setL_other S _ e]
  · by_cases e : j = k + 1
    · subst e; rw [e1]; rfl
    · rw [St.setL_other S _ e]
  · refine St.raw_above S (k + 1) _ rfl fun i => ?_
    obtain ⟨h1, h2⟩ := St.raw_below S (k + 1) ((S.L (k + 1)).set p x) k (by omega)
    unfold St.raw
    rw [e1, h1 i, h2]
    unfold Lv.set
    dsimp only
    by_cases e : i / 4096 = p
    · rw [if_pos e]
      rw [e, hn]
      have := hx (i % 4096) (by omega)
      rw [show p * 4096 + i % 4096 = i by omega] at this
      exact this
    · rw [if_neg e]
  · unfold St.dirty
    by_cases e : j = k + 1
    · subst e
      rw [e1]
      unfold Lv.set
      dsimp only
      by_cases e2 : q = p
      · subst e2
        rw [if_pos rfl, hn]
        exact hd
      · rw [if_neg e2]
    · rw [St.setL_other S _ e]

/-- what is kept of a world where level k and those below it change, and the buffer gb -/
abbrev Out (tg : Nat → Nat × Nat) (w : World) (k gb : Nat) : Nat → Prop := fun j => j < w.heap.size ∧ k < (tg j).1 ∧ j ≠ gb

/-- the two variables lie outside -/
abbrev VarsO (tg : Nat → Nat × Nat) (w : World) (va vb : Addr) : Prop := Vars (fun j => j < w.heap.size ∧ 1000 ≤ (tg j).1) w va vb

/-- what a reading leaves -/
def RdPost (tg : Nat → Nat × Nat) (w : World) (S : St) (k gb n off : Nat) (xs : List UInt8) (va : Addr) (e : Ending) (w' : World) : Prop :=
  ∃ tg' S' d er, e = .returned (.tuple #[.int .i64 ((d : Nat) : Int), er]) ∧ d = min (S.size k - off) n ∧ (er = .nilIface ∨ er = .iface 115 (.pointer (some va))) ∧ Loads k S S' ∧ (∀ j, j < w.heap.size → tg' j = tg j) ∧ StIs tg' w' S' ∧
    Row NoP w' 5 1 (.slice (some ⟨gb, 0, none⟩) n n) n (u8s (splice xs 0 (S.rd k off d))) ∧ Keeps (Out tg w k gb) w w'

/-- level k's function of that name, and its receiver -/
def rdFn : Nat → FuncId
  | 0 => 120
  | _ + 1 => 78
def St.ptr (S : St) : Nat → Addr
  | 0 => ⟨S.gm, 0, none⟩
  | k + 1 => ⟨(S.L (k + 1)).b, 0, none⟩

/-- level k reads as it sees -/
def RdSpec (k : Nat) : Prop := ∀ (tg : Nat → Nat × Nat) (w : World) (S : St) (gb n off : Nat) (xs : List UInt8) (va vb : Addr), StIs tg w S → k ≤ S.t → 100 ≤ (tg gb).1 → (tg gb).1 < 1000 → VarsO tg w va vb →
  Row NoP w 5 1 (.slice (some ⟨gb, 0, none⟩) n n) n (u8s xs) → 0 < n → n ≤ 65536 → off ≤ 1000000 →
  Calls Tryz.prog (rdFn k) #[.pointer (some (S.ptr k)), .slice (some ⟨gb, 0, none⟩) n n, .int .i64 (off : Int)] w (RdPost tg w S k gb n off xs va)

theorem rd_zero (S : St) (off d : Nat) (h : off + d ≤ S.fb.length) : S.rd 0 off d = (S.fb.drop off).take d := by
  apply List.ext_getElem?
  intro j
  by_cases hj : j < d
  · rw [List.getElem?_take_of_lt hj, List.getElem?_drop]
    simp [St.rd, St.raw, hj, List.getElem?_eq_getElem (show off + j < S.fb.length by omega)]
  · rw [List.getElem?_eq_none (by rw [St.rd_length]; omega), List.getElem?_eq_none (by rw [List.length_take]; omega)]

theorem u8s_splice (xs : List UInt8) (o : Nat) (ys : List UInt8) : u8s (splice xs o ys) = splice (u8s xs) o (u8s ys) := splice_map _ _ _ _

theorem drewN_heap (w : World) (q : Nat) : (World.drewN w q).heap = w.heap := rfl

set_option maxRecDepth 100000 in
/-- the file reads as it is -/
theorem rd_file : RdSpec 0 := by
  intro tg w S gb n off xs va vb hS _ hgb hgb2 hV hrow hn hn2 ho
  have hm := hS.mem
  have hlen := hS.fb
  have h01 : ∀ j, j < w.heap.size ∧ 1000 ≤ (tg j).1 → (tg j).1 ≠ 0 ∧ j ≠ gb := fun j h => ⟨by omega, fun e => by subst e; omega⟩
  have hz : ZIs (fun j => (tg j).1 ≠ 0 ∧ j ≠ gb) w S.gz S.v S.fb := hm.zis.widen fun j _ h1 h2 => h1 h2.1
  have hr := zread_any (fun j => (tg j).1 ≠ 0 ∧ j ≠ gb) NoP w S.gz gb S.v S.fb (u8s xs) va vb n n off (hV.mono h01) hz hrow (fun h => h.2 rfl) hn (by omega)
  refine (mread_of w S.gm S.gz _ _ _ hm.c0 hr).mono ?_
  rintro e w' ⟨x, y, rfl, d, q, w2, rfl, rfl, hrow2, hk, hd, her⟩
  have hdd : S.rd 0 off d = (S.fb.drop off).take d := by
    by_cases h : off + d ≤ S.fb.length
    · exact rd_zero S off d h
    · have : d = 0 := by omega
      subst this
      simp [St.rd]
  refine ⟨tg, S, d, y, rfl, hd, her.elim (fun h => .inr h.2) (fun h => .inl h.2), Loads.refl _ _, fun _ _ => rfl, ?_, ?_, ?_⟩
  · have h1 : StIs tg w2 S := hS.kept (fun j h1 h3 => hk.block j ⟨h1, fun e => by subst e; have := hS.tt; omega⟩) (fun _ _ _ => rfl)
    exact h1.kept (fun _ _ _ => rfl) (fun _ _ _ => rfl)
  · rw [hdd, u8s_splice]
    exact hrow2
  · exact ⟨hk.os, hk.tape, hk.output, hk.size, fun j h => hk.block j ⟨h.1, h.2.2⟩⟩

end Go.Proofs.YtkkliejgmgmebaaGreatDoor

namespace Go.Proofs.YtkkliejgmgmebaaGreatDoor
open Go.RowKit

theorem bufCGet_n (w : World) (n : Nat) (hn : n ≤ 1000000) : Calls Tryz.prog 98 #[.int .i64 (n : Int)] w fun e w' => e = .returned (.pointer (some ⟨w.heap.size + 1, 0, none⟩)) ∧
    w' = (w.alloc (.cells (madeCells #[.int .u8 0] n) 5)).alloc (.cells #[.slice (some ⟨w.heap.size, 0, none⟩) n n] 22) := by
  obtain ⟨i0, hi, hz0, hz1, hz2⟩ := info_parts infoU8
  have hmk := fun W => make_run (P := Tryz.prog) W 22 5 i0 (.int .u8 0) Tryz.underlying22 hi hz0 hz1 hz2 n (by omega)
  go_enter Tryz.func98, Tryz.ntmps98
  (repeat (first | go_values | go_skip | go_guarded | go_step | go_upon))
  go_ret
  exact ⟨rfl, rfl⟩

theorem bufCGet_any (w : World) : Calls Tryz.prog 98 #[.int .i64 4096] w fun e w' => e = .returned (.pointer (some ⟨w.heap.size + 1, 0, none⟩)) ∧
    w' = (w.alloc (.cells (madeCells #[.int .u8 0] 4096) 5)).alloc (.cells #[.slice (some ⟨w.heap.size, 0, none⟩) 4096 4096] 22) := bufCGet_n w 4096 (by omega)

theorem bufPut_any (w : World) (v : Value) : Calls Tryz.prog 95 #[v] w fun e w' => e = .returned (.tuple #[]) ∧ w' = w := by
  go_enter Tryz.func95, Tryz.ntmps95
  (repeat (first | go_values | go_skip | go_guarded | go_step | go_upon))
  exact bodyPost_end (results_none rfl _ _ _) rfl ⟨rfl, rfl⟩

theorem iseof_any (w : World) (a : Addr) (e0 : w.cell? ⟨0, 0, none⟩ = some (.iface 115 (.pointer (some a)))) : Calls Tryz.prog 99 #[.iface 115 (.pointer (some a))] w fun e w' => e = .returned (.bool true) ∧ w' = w := by
  have q := eql_same
  go_enter Tryz.func99, Tryz.ntmps99
  (repeat (first | go_values | go_skip | go_guarded | go_step | go_upon))
  go_ret
  exact ⟨rfl, rfl⟩

theorem min_any (w : World) (a b : Nat) : Calls Tryz.prog 100 #[.int .i64 (a : Int), .int .i64 (b : Int)] w fun e w' => e = .returned (.int .i64 ((min a b : Nat) : Int)) ∧ w' = w := by
  by_cases h : a ≤ b
  · have e : min a b = a := Nat.min_eq_left h
    have h' : (a : Int) ≤ b := by omega
    go_enter Tryz.func100, Tryz.ntmps100
    (repeat (first | go_values | go_skip | go_guarded | go_step | go_upon))
    go_ret
    exact ⟨by rw [e]; rfl, rfl⟩
  · have e : min a b = b := Nat.min_eq_right (by omega)
    have h' : (b : Int) < a := by omega
    go_enter Tryz.func100, Tryz.ntmps100
    (repeat (first | go_values | go_skip | go_guarded | go_step | go_upon))
    go_ret
    exact ⟨by rw [e]; rfl, rfl⟩

theorem max_any (w : World) (a b : Nat) : Calls Tryz.prog 101 #[.int .i64 (a : Int), .int .i64 (b : Int)] w fun e w' => e = .returned (.int .i64 ((max a b : Nat) : Int)) ∧ w' = w := by
  by_cases h : a < b
  · have e : max a b = b := Nat.max_eq_right (Nat.le_of_lt h)
    have h' : (a : Int) < b := by omega
    go_enter Tryz.func101, Tryz.ntmps101
    (repeat (first | go_values | go_skip | go_guarded | go_step | go_upon))
    go_ret
    exact ⟨by rw [e]; rfl, rfl⟩
  · have e : max a b = a := Nat.max_eq_left (by omega)
    have h' : (b : Int) ≤ a := by omega
    go_enter Tryz.func101, Tryz.ntmps101
    (repeat (first | go_values | go_skip | go_guarded | go_step | go_upon))
    go_ret
    exact ⟨by rw [e]; rfl, rfl⟩

theorem bsize_any (w : World) (b : Nat) (n : Int) (c2 : w.cell? ⟨b, 2, none⟩ = some (.int .i64 n)) : Calls Tryz.prog 74 #[.pointer (some ⟨b, 0, none⟩)] w fun e w' => e = .returned (.tuple #[.int .i64 n, .nilIface]) ∧ w' = w := by
  go_enter Tryz.func74, Tryz.ntmps74
  (repeat (first | go_values | go_skip | go_guarded | go_step | go_upon))
  go_ret2
  exact ⟨rfl, rfl⟩

set_option maxRecDepth 100000 in
theorem and4095 (n : Nat) (h : n ≤ 10000000) : bits .and .i64 (n : Int) 4095 = ((n % 4096 : Nat) : Int) := by
  show IntKind.i64.wrap ((BitVec.ofInt 64 (n : Int) &&& BitVec.ofInt 64 ((4095 : Nat) : Int)).toNat : Int) = _
  rw [BitVec.toNat_and, ofInt_u64 n (by omega), ofInt_u64 4095 (by omega), show 4095 = 2 ^ 12 - 1 from rfl, Nat.and_two_pow_sub_one_eq_mod, IntKind.wrap_i64]
  omega

theorem nat_andNot (n : Nat) (h : n < 2 ^ 64) : n &&& (2 ^ 64 - (4095 + 1)) = n / 4096 * 4096 := by
  apply Nat.eq_of_testBit_eq
  intro i
  rw [show n / 4096 * 4096 = (n >>> 12) <<< 12 by rw [Nat.shiftLeft_eq, Nat.shiftRight_eq_div_pow]]
  rw [Nat.testBit_and, Nat.testBit_two_pow_sub_succ (by omega), show (4095 : Nat) = 2 ^ 12 - 1 from rfl, Nat.testBit_two_pow_sub_one, Nat.testBit_shiftLeft, Nat.testBit_shiftRight]
  by_cases h1 : i < 12
  · have : ¬ i ≥ 12 := by omega
    simp [h1]
    omega
  · have e : 12 + (i - 12) = i := by omega
    rw [e]
    by_cases h2 : i < 64
    · simp [h1, h2]
      omega
    · have : n.testBit i = false := Nat.testBit_lt_two_pow (Nat.lt_of_lt_of_le h (Nat.pow_le_pow_right (by omega) (by omega)))
      simp [this]

set_option maxRecDepth 100000 in
theorem andNot4095 (n : Nat) (h : n ≤ 10000000) : bits .andNot .i64 (n : Int) 4095 = ((n / 4096 * 4096 : Nat) : Int) := by
  show IntKind.i64.wrap ((BitVec.ofInt 64 (n : Int) &&& ~~~ BitVec.ofInt 64 ((4095 : Nat) : Int)).toNat : Int) = _
  rw [BitVec.toNat_and, BitVec.toNat_not, ofInt_u64 n (by omega), ofInt_u64 4095 (by omega)]
  have e : n &&& (2 ^ 64 - 1 - 4095) = n / 4096 * 4096 := nat_andNot n (by omega)
  rw [e, IntKind.wrap_i64]
  omega

end Go.Proofs.YtkkliejgmgmebaaGreatDoor
