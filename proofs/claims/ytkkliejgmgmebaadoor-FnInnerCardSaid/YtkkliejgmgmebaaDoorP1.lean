/-
  The arguments, opened: bytes, and a list of calls of a filer.
-/
import Derived.Test.YtkkliejgmgmebaaDoorM9
import Derived.ChangeSlices
import Derived.Deep.Slices
import Derived.Deep.Fields
import Derived.ChangeSame
namespace Go.Proofs.YtkkliejgmgmebaaDoor
open Go.ChangeShapes Go.WideShapes Go.Deep Go.RowKit

section
variable {H : Type} {enc : TypeId × Value → H} {P : Program} {w : World} {base : Nat} {spare : Nat → Bool} {held : Bool}
theorem open_slice_fields {t e : TypeId} {fs : Array Field} {fuel : Nat} {cs : List Value} {x : DataW H × List MemPlace} (ht : P.underlying t = some (.slice e)) (he : P.underlying e = some (.struct fs))
    (hone : oneCellFields P fs = true) (hC : P.cellsOf e = fs.size) (h : DataW.trod enc P w base spare held fuel t cs = some x) :
    (cs = [.slice none 0 0] ∧ x = (.nil, [])) ∨
    ∃ (a : Addr) (len cap m : Nat) (D : Nat → DataW H) (Pl : Nat → List MemPlace), cs = [.slice (some a) len cap] ∧ base ≤ a.block ∧ len ≤ cap ∧ cap ≤ maxLen ∧ m = (if spare a.block then cap else len) ∧
      x = (.slice ((List.range len).map D) ((List.range (m - len)).map fun j => D (len + j)), MemPlace.row a (m * fs.size) ++ (List.range m).flatMap Pl) ∧
      ∀ i, i < m → ∃ (ys : List (DataW H × List MemPlace)) (n : Nat), D i = .agg (ys.map (·.1)) ∧ Pl i = ys.flatMap (·.2) ∧ ys.length = fs.size ∧
        ∀ (j : Nat) (f : Field), fs[j]? = some f → ∃ (v : Value) (y : DataW H × List MemPlace), w.cell? (a.add (i * fs.size + j)) = some v ∧ ys[j]? = some y ∧ DataW.trod enc P w base spare held n f.type [v] = some y := by
  rcases open_slice ht h with h0 | ⟨a, len, cap, m, n, D, Pl, hcs, hb, hl, hm, hmm, hx, hi⟩
  · exact .inl h0
  · refine .inr ⟨a, len, cap, m, D, Pl, hcs, hb, hl, hm, hmm, by rw [hC] at hx; exact hx, fun i him => ?_⟩
    obtain ⟨cs', hc, ht'⟩ := hi i him
    rw [hC] at hc
    obtain ⟨ys, n', hn', hy, hlen, hyl, hf⟩ := DataW.trod_struct he ht'
    obtain ⟨_, hcl, hat⟩ := World.cells?_some hc
    simp only [Prod.mk.injEq] at hy
    refine ⟨ys, n', hy.1, hy.2, hyl, fun j f hj => ?_⟩
    obtain ⟨ho, hk⟩ := hone_of hone j f hj
    have hjl : j < fs.size := (Array.getElem?_eq_some_iff.1 hj).1
    have hcell := hat j hjl
    have hv : cs'[j]? = some (cs'[j]'(by omega)) := List.getElem?_eq_getElem (by omega)
    have h1 := hf j f hj
    rw [ho, hk] at h1
    have hone' : (cs'.drop j).take 1 = [cs'[j]'(by omega)] := by
      rw [List.drop_eq_getElem_cons (by omega)]
      rfl
    rw [hone'] at h1
    have hys : ys[j]? = some (ys[j]'(by omega)) := List.getElem?_eq_getElem (by omega)
    refine ⟨_, _, ?_, hys, h1.trans hys⟩
    rw [← Go.Deep.add_add, hcell, hv]
end

theorem cellSpot {w : World} {p : Addr} {v : Value} (h : w.cell? p = some v) : p.spot = none ∧ p.block < w.heap.size := by
  unfold World.cell? at h
  split at h
  · rename_i c e fr hb
    refine ⟨?_, ?_⟩
    · split at h
      · cases h
      · rename_i h'; simpa using h'
    · rcases Nat.lt_or_ge p.block w.heap.size with h' | h'
      · exact h'
      · simp [Array.getElem?_eq_none h'] at hb
  · cases h

theorem add_eq' (b off j : Nat) : (⟨b, off, none⟩ : Addr).add j = ⟨b, off + j, none⟩ := by
  unfold Addr.add
  split
  · rename_i h; subst h; rfl
  · rfl

/-- a reading of bytes -/
theorem bytes_of {H : Type} {enc : TypeId × Value → H} {w : World} {base n : Nat} {held : Bool} {v : Value} {y : DataW H × List MemPlace} (h : DataW.trod enc Tryd.prog w base (fun _ => true) held n 22 [v] = some y) :
    ∃ a l c bs, v = .slice a l c ∧ l ≤ c ∧ c ≤ 9223372036854775807 ∧ Rd (Old w) w a l bs := by
  rcases open_ints Tryd.underlying22 Tryd.underlying5 (by kernel_rfl) h with ⟨hcs, -⟩ | ⟨a, len, cap, zs, hcs, -, hl, hm, hz, -, hcell, hwf⟩
  · simp only [List.cons.injEq, and_true] at hcs
    exact ⟨none, 0, 0, [], hcs, Nat.le_refl _, by omega, rfl, .inl rfl⟩
  · simp only [List.cons.injEq, and_true] at hcs
    simp only [if_true] at hz
    refine ⟨some a, len, cap, (zs.take len).map fun z => UInt8.ofNat z.toNat, hcs, hl, by unfold maxLen at hm; omega, by simp; omega, ?_⟩
    rcases Nat.eq_zero_or_pos len with h0 | h0
    · subst h0; exact .inl (by simp)
    · have h1 := hcell 0 (by omega)
      obtain ⟨hs, hb⟩ := cellSpot h1
      obtain ⟨b, off, sp⟩ := a
      simp only [Addr.add, if_true] at hs hb
      subst hs
      refine .inr ⟨b, off, rfl, hb, fun i x hx => ?_⟩
      rw [List.getElem?_map] at hx
      cases hz' : (zs.take len)[i]? with
      | none => rw [hz'] at hx; cases hx
      | some z =>
        rw [hz'] at hx
        simp only [Option.map_some, Option.some.injEq] at hx
        have hi : i < len := by
          rcases Nat.lt_or_ge i len with h | h
          · exact h
          · rw [List.getElem?_eq_none (by simp; omega)] at hz'; cases hz'
        rw [List.getElem?_take_of_lt hi] at hz'
        have h2 := hcell i (by omega)
        rw [add_eq'] at h2
        rw [h2]
        have hw := hwf z (List.mem_of_getElem? hz')
        simp only [Lit.wf, Bool.and_eq_true, decide_eq_true_eq] at hw
        have hw1 : 0 ≤ z := hw.1
        have hw2 : z ≤ 255 := hw.2
        have : zs.getD i 0 = z := by rw [List.getD_eq_getElem?_getD, hz']; rfl
        rw [this, ← hx, UInt8.toNat_ofNat']
        congr 2
        omega

set_option maxRecDepth 100000 in
/-- AN ARGUMENT: bytes. -/
theorem arg_bytes {H : Type} {enc : TypeId × Value → H} {W : World} {base : Nat} {v : Value} {d : DataW H} {p : List MemPlace} (hv : Value.okWide Tryd.prog W .any base 22 v) (h : DataW.Trod enc Tryd.prog W 0 (fun _ => true) true 22 v d p) :
    ∃ a n c bs, v = .slice a n c ∧ n ≤ c ∧ c ≤ 9223372036854775807 ∧ Rd (Old W) W a n bs := by
  obtain ⟨a0, n0, c0, rfl⟩ := okWide_slice Tryd.underlying22 hv
  obtain ⟨fuel, hf⟩ := h
  exact bytes_of hf

set_option maxHeartbeats 1000000 in
set_option maxRecDepth 100000 in
/-- AN ARGUMENT: calls of a filer. -/
theorem arg_ops {H : Type} {enc : TypeId × Value → H} {W : World} {base : Nat} {v : Value} {d : DataW H} {p : List MemPlace} (hv : Value.okWide Tryd.prog W .any base 23 v) (h : DataW.Trod enc Tryd.prog W 0 (fun _ => true) true 23 v d p) :
    ∃ a n c L, v = .slice a n c ∧ List.length L = n ∧ n ≤ c ∧ c ≤ 9223372036854775807 ∧ rdO (Old W) W a L := by
  obtain ⟨a0, n0, c0, rfl⟩ := okWide_slice Tryd.underlying23 hv
  obtain ⟨fuel, hf⟩ := h
  rcases open_slice_fields Tryd.underlying23 Tryd.underlying47 (by kernel_rfl) (by kernel_rfl) hf with ⟨hcs, -⟩ | ⟨a, len, cap, m, D, Pl, hcs, -, hl, hm, hmm, -, hi⟩
  · simp only [Value.cells, List.cons.injEq, and_true] at hcs
    cases hcs
    exact ⟨none, 0, 0, [], rfl, rfl, Nat.le_refl _, by omega, .inl rfl⟩
  · simp only [Value.cells, List.cons.injEq, and_true] at hcs
    cases hcs
    simp only [if_true] at hmm
    subst hmm
    have key : ∀ i, i < m → ∃ x : Op, W.cell? (a.add (i * 4)) = some (.int .i64 x.kind) ∧ W.cell? (a.add (i * 4 + 1)) = some (.int .i64 x.off) ∧ W.cell? (a.add (i * 4 + 2)) = some (.int .i64 x.size) ∧ W.cell? (a.add (i * 4 + 3)) = some (.slice x.a x.n x.c) ∧
        x.n ≤ x.c ∧ x.c ≤ 9223372036854775807 ∧ Rd (Old W) W x.a x.n x.d := by
      intro i him
      obtain ⟨ys, n, -, -, -, hfld⟩ := hi i him
      obtain ⟨v0, y0, c0, -, t0⟩ := hfld 0 _ rfl
      obtain ⟨v1, y1, c1, -, t1⟩ := hfld 1 _ rfl
      obtain ⟨v2, y2, c2, -, t2⟩ := hfld 2 _ rfl
      obtain ⟨v3, y3, c3, -, t3⟩ := hfld 3 _ rfl
      obtain ⟨z0, e0, -, -⟩ := DataW.trod_int Tryd.underlying3 t0
      obtain ⟨z1, e1, -, -⟩ := DataW.trod_int Tryd.underlying2 t1
      obtain ⟨z2, e2, -, -⟩ := DataW.trod_int Tryd.underlying2 t2
      obtain ⟨ba, bn, bc, bs, e3, w5, w6, w7⟩ := bytes_of t3
      simp only [List.cons.injEq, and_true] at e0 e1 e2
      subst e0 e1 e2 e3
      exact ⟨⟨z0, z1, z2, ba, bn, bc, bs⟩, c0, c1, c2, c3, w5, w6, w7⟩
    rcases Nat.eq_zero_or_pos n0 with h0 | h0
    · subst h0
      exact ⟨some a, 0, m, [], rfl, rfl, by omega, by unfold maxLen at hm; omega, .inl rfl⟩
    · obtain ⟨s0, h1, -⟩ := key 0 (by omega)
      obtain ⟨hs, hb⟩ := cellSpot h1
      obtain ⟨b, off, sp⟩ := a
      simp only [Addr.add, Nat.zero_mul, if_true] at hs hb
      subst hs
      obtain ⟨f, hf'⟩ := Classical.axiomOfChoice (fun i : Fin m => key i.1 i.2)
      refine ⟨some ⟨b, off, none⟩, n0, m, List.ofFn fun i : Fin n0 => f ⟨i.1, by omega⟩, rfl, by simp, hl, by unfold maxLen at hm; omega, .inr ⟨b, off, rfl, hb, fun i s hs => ?_⟩⟩
      have hin : i < n0 := by
        rcases Nat.lt_or_ge i n0 with h | h
        · exact h
        · rw [List.getElem?_eq_none (by simp; omega)] at hs; cases hs
      rw [List.getElem?_ofFn, dif_pos hin] at hs
      simp only [Option.some.injEq] at hs
      subst hs
      obtain ⟨g0, g1, g2, g3, g4, g5, g6⟩ := hf' ⟨i, by omega⟩
      simp only [add_eq'] at g0 g1 g2 g3
      exact ⟨g0, by rw [← g1]; congr 2, by rw [← g2]; congr 2, by rw [← g3]; congr 2, g4, g5, g6⟩

end Go.Proofs.YtkkliejgmgmebaaDoor
