/-
  The arguments, opened: bytes, and a list of calls of a filer.
-/
import Derived.Test.YtkkliejgmgmebaaGreatDoorMb
import Derived.ChangeSlices
import Derived.Deep.Slices
import Derived.Deep.Fields
import Derived.ChangeSame
import Derived.Test.YtkkliejgmgmebaaGreatDoorCards
import Derived.Test.YtkkliejgmgmebaaGreatDoorTie
import Derived.Test.YtkkliejgmgmebaaGreatDoorMa
import Derived.ProofKit
import Derived.OpenShut
import Derived.Carry
import Derived.LaidLaws
import Derived.Stop.ErrReads
import Derived.Deep.DeepHandedRow
import Derived.Deep.DeepWitnessRowRef
namespace Go.Proofs.YtkkliejgmgmebaaGreatDoor
open Go.ChangeShapes Go.WideShapes Go.Deep Go.RowKit

section
variable {H : Type} {enc : TypeId × Value → H} {P : Program} {w : World} {base : Nat} {spare : Nat → Bool} {held : Bool}
theorem open_slice_fields {t e : TypeId} {fs : Array Field} {fuel : Nat} {cs : List Value} {x : DataW H × List MemPlace} (ht : P.underlying t = some (.slice e)) (he : P.underlying e = some (.struct fs))
    (hone : oneCellFields P fs = true) (hC : P.cellsOf e = fs.size) (h : DataW.trod enc P w base spare held fuel t cs = some x) :
    (cs = [.slice none 0 0] ∧ x = (.nil, [])) ∨
    ∃ (a : Addr) (len cap m : Nat) (D : Nat → DataW H) (Pl : Nat → List MemPlace), cs = [.slice (some a) len cap] ∧ base ≤ a.block ∧ len ≤ cap ∧ cap ≤ maxLen ∧ m = (if spare a.block then cap else len) ∧
      x = (.slice ((List.range len).map D) ((List.range (m - len)).map fun j => D (len + j)), MemPlace.row a (m * fs.size) ++ (List.range m).flatMap Pl) ∧
      ∀ i, i < m → ∃ (ys : List (DataW H × List MemPlace)) (n : Nat), D i = .agg (ys.map (·.1)) ∧ Pl i = ys.flatMap (·.2) ∧ ys.length = fs.size ∧
        ∀ (j : Nat) (f : Field), fs[j]? = some f → ∃ (v : Value) (y : DataW H × List MemPlace), w.cell? (a.add (i * fs.size + j)) = some v ∧ ys[j]? = some y ∧ DataW.trod enc P w base spare held n f.type [v] = some y := by
  rcases open_slice ht h with h0 | ⟨a, len, cap, m, n, D, Pl, hcs, hb, hl, hm, hmm, hx, hi⟩
  · exact .inl h0
  · refine .inr ⟨a, len, cap, m, D, Pl, hcs, hb, hl, hm, hmm, by rw [hC] at hx; exact hx, fun i him => ?_⟩
    obtain ⟨cs', hc, ht'⟩ := hi i him
    rw [hC] at hc
    obtain ⟨ys, n', hn', hy, hlen, hyl, hf⟩ := DataW.trod_struct he ht'
    obtain ⟨_, hcl, hat⟩ := World.cells?_some hc
    simp only [Prod.mk.injEq] at hy
    refine ⟨ys, n', hy.1, hy.2, hyl, fun j f hj => ?_⟩
    obtain ⟨ho, hk⟩ := hone_of hone j f hj
    have hjl : j < fs.size := (Array.getElem?_eq_some_iff.1 hj).1
    have hcell := hat j hjl
    have hv : cs'[j]? = some (cs'[j]'(by omega)) := List.getElem?_eq_getElem (by omega)
    have h1 := hf j f hj
    rw [ho, hk] at h1
    have hone' : (cs'.drop j).take 1 = [cs'[j]'(by omega)] := by
      rw [List.drop_eq_getElem_cons (by omega)]
      rfl
    rw [hone'] at h1
    have hys : ys[j]? = some (ys[j]'(by omega)) := List.getElem?_eq_getElem (by omega)
    refine ⟨_, _, ?_, hys, h1.trans hys⟩
    rw [← Go.Deep.add_add, hcell, hv]
end

theorem cellSpot {w : World} {p : Addr} {v : Value} (h : w.cell? p = some v) : p.spot = none ∧ p.block < w.heap.size := by
  unfold World.cell? at h
  split at h
  · rename_i c e fr hb
    refine ⟨?_, ?_⟩
    · split at h
      · cases h
      · rename_i h'; simpa using h'
    · rcases Nat.lt_or_ge p.block w.heap.size with h' | h'
      · exact h'
      · simp [Array.getElem?_eq_none h'] at hb
  · cases h

theorem add_eq' (b off j : Nat) : (⟨b, off, none⟩ : Addr).add j = ⟨b, off + j, none⟩ := by
  unfold Addr.add
  split
  · rename_i h; subst h; rfl
  · rfl

/-- a reading of bytes -/
theorem bytes_of {H : Type} {enc : TypeId × Value → H} {w : World} {base n : Nat} {held : Bool} {v : Value} {y : DataW H × List MemPlace} (h : DataW.trod enc Tryz.prog w base (fun _ => true) held n 22 [v] = some y) :
    ∃ a l c bs, v = .slice a l c ∧ l ≤ c ∧ c ≤ 9223372036854775807 ∧ Rd (Old w) w a l bs := by
  rcases open_ints Tryz.underlying22 Tryz.underlying5 (by kernel_rfl) h with ⟨hcs, -⟩ | ⟨a, len, cap, zs, hcs, -, hl, hm, hz, -, hcell, hwf⟩
  · simp only [List.cons.injEq, and_true] at hcs
    exact ⟨none, 0, 0, [], hcs, Nat.le_refl _, by omega, rfl, .inl rfl⟩
  · simp only [List.cons.injEq, and_true] at hcs
    simp only [if_true] at hz
    refine ⟨some a, len, cap, (zs.take len).map fun z => UInt8.ofNat z.toNat, hcs, hl, by unfold maxLen at hm; omega, by simp; omega, ?_⟩
    rcases Nat.eq_zero_or_pos len with h0 | h0
    · subst h0; exact .inl (by simp)
    · have h1 := hcell 0 (by omega)
      obtain ⟨hs, hb⟩ := cellSpot h1
      obtain ⟨b, off, sp⟩ := a
      simp only [Addr.add, if_true] at hs hb
      subst hs
      refine .inr ⟨b, off, rfl, hb, fun i x hx => ?_⟩
      rw [List.getElem?_map] at hx
      cases hz' : (zs.take len)[i]? with
      | none => rw [hz'] at hx; cases hx
      | some z =>
        rw [hz'] at hx
        simp only [Option.map_some, Option.some.injEq] at hx
        have hi : i < len := by
          rcases Nat.lt_or_ge i len with h | h
          · exact h
          · rw [List.getElem?_eq_none (by simp; omega)] at hz'; cases hz'
        rw [List.getElem?_take_of_lt hi] at hz'
        have h2 := hcell i (by omega)
        rw [add_eq'] at h2
        rw [h2]
        have hw := hwf z (List.mem_of_getElem? hz')
        simp only [Lit.wf, Bool.and_eq_true, decide_eq_true_eq] at hw
        have hw1 : 0 ≤ z := hw.1
        have hw2 : z ≤ 255 := hw.2
        have : zs.getD i 0 = z := by rw [List.getD_eq_getElem?_getD, hz']; rfl
        rw [this, ← hx, UInt8.toNat_ofNat']
        congr 2
        omega

set_option maxRecDepth 100000 in
/-- AN ARGUMENT: bytes. -/
theorem arg_bytes {H : Type} {enc : TypeId × Value → H} {W : World} {base : Nat} {v : Value} {d : DataW H} {p : List MemPlace} (hv : Value.okWide Tryz.prog W .any base 22 v) (h : DataW.Trod enc Tryz.prog W 0 (fun _ => true) true 22 v d p) :
    ∃ a n c bs, v = .slice a n c ∧ n ≤ c ∧ c ≤ 9223372036854775807 ∧ Rd (Old W) W a n bs := by
  obtain ⟨a0, n0, c0, rfl⟩ := okWide_slice Tryz.underlying22 hv
  obtain ⟨fuel, hf⟩ := h
  exact bytes_of hf

set_option maxHeartbeats 1000000 in
set_option maxRecDepth 100000 in
/-- AN ARGUMENT: calls of a filer. -/
theorem arg_ops {H : Type} {enc : TypeId × Value → H} {W : World} {base : Nat} {v : Value} {d : DataW H} {p : List MemPlace} (hv : Value.okWide Tryz.prog W .any base 23 v) (h : DataW.Trod enc Tryz.prog W 0 (fun _ => true) true 23 v d p) :
    ∃ a n c L, v = .slice a n c ∧ List.length L = n ∧ n ≤ c ∧ c ≤ 9223372036854775807 ∧ rdO (Old W) W a L := by
  obtain ⟨a0, n0, c0, rfl⟩ := okWide_slice Tryz.underlying23 hv
  obtain ⟨fuel, hf⟩ := h
  rcases open_slice_fields Tryz.underlying23 Tryz.underlying42 (by kernel_rfl) (by kernel_rfl) hf with ⟨hcs, -⟩ | ⟨a, len, cap, m, D, Pl, hcs, -, hl, hm, hmm, -, hi⟩
  · simp only [Value.cells, List.cons.injEq, and_true] at hcs
    cases hcs
    exact ⟨none, 0, 0, [], rfl, rfl, Nat.le_refl _, by omega, .inl rfl⟩
  · simp only [Value.cells, List.cons.injEq, and_true] at hcs
    cases hcs
    simp only [if_true] at hmm
    subst hmm
    have key : ∀ i, i < m → ∃ x : Op, W.cell? (a.add (i * 4)) = some (.int .i64 x.kind) ∧ W.cell? (a.add (i * 4 + 1)) = some (.int .i64 x.off) ∧ W.cell? (a.add (i * 4 + 2)) = some (.int .i64 x.size) ∧ W.cell? (a.add (i * 4 + 3)) = some (.slice x.a x.n x.c) ∧
        x.n ≤ x.c ∧ x.c ≤ 9223372036854775807 ∧ Rd (Old W) W x.a x.n x.d := by
      intro i him
      obtain ⟨ys, n, -, -, -, hfld⟩ := hi i him
      obtain ⟨v0, y0, c0, -, t0⟩ := hfld 0 _ rfl
      obtain ⟨v1, y1, c1, -, t1⟩ := hfld 1 _ rfl
      obtain ⟨v2, y2, c2, -, t2⟩ := hfld 2 _ rfl
      obtain ⟨v3, y3, c3, -, t3⟩ := hfld 3 _ rfl
      obtain ⟨z0, e0, -, -⟩ := DataW.trod_int Tryz.underlying3 t0
      obtain ⟨z1, e1, -, -⟩ := DataW.trod_int Tryz.underlying2 t1
      obtain ⟨z2, e2, -, -⟩ := DataW.trod_int Tryz.underlying2 t2
      obtain ⟨ba, bn, bc, bs, e3, w5, w6, w7⟩ := bytes_of t3
      simp only [List.cons.injEq, and_true] at e0 e1 e2
      subst e0 e1 e2 e3
      exact ⟨⟨z0, z1, z2, ba, bn, bc, bs⟩, c0, c1, c2, c3, w5, w6, w7⟩
    rcases Nat.eq_zero_or_pos n0 with h0 | h0
    · subst h0
      exact ⟨some a, 0, m, [], rfl, rfl, by omega, by unfold maxLen at hm; omega, .inl rfl⟩
    · obtain ⟨s0, h1, -⟩ := key 0 (by omega)
      obtain ⟨hs, hb⟩ := cellSpot h1
      obtain ⟨b, off, sp⟩ := a
      simp only [Addr.add, Nat.zero_mul, if_true] at hs hb
      subst hs
      obtain ⟨f, hf'⟩ := Classical.axiomOfChoice (fun i : Fin m => key i.1 i.2)
      refine ⟨some ⟨b, off, none⟩, n0, m, List.ofFn fun i : Fin n0 => f ⟨i.1, by omega⟩, rfl, by simp, hl, by unfold maxLen at hm; omega, .inr ⟨b, off, rfl, hb, fun i s hs => ?_⟩⟩
      have hin : i < n0 := by
        rcases Nat.lt_or_ge i n0 with h | h
        · exact h
        · rw [List.getElem?_eq_none (by simp; omega)] at hs; cases hs
      rw [List.getElem?_ofFn, dif_pos hin] at hs
      simp only [Option.some.injEq] at hs
      subst hs
      obtain ⟨g0, g1, g2, g3, g4, g5, g6⟩ := hf' ⟨i, by omega⟩
      simp only [add_eq'] at g0 g1 g2 g3
      exact ⟨g0, by rw [← g1]; congr 2, by rw [← g2]; congr 2, by rw [← g3]; congr 2, g4, g5, g6⟩

end Go.Proofs.YtkkliejgmgmebaaGreatDoor

namespace Go.Proofs.YtkkliejgmgmebaaGreatDoor
open Go.ChangeShapes Go.WideShapes Go.ChangeAt Go.RowKit

theorem own : ownKnob Tryz.prog.godebug = none := by kernel_rfl
theorem laidOut : laidOutB Tryz.prog = true := by kernel_rfl

/-- A WORLD FOR THE WITNESS: the settled one with two blocks more, the two errors; the two variables hold them. -/
noncomputable def laidWorld (os : Os) : World :=
  let N := (World.settled Tryz.prog os).heap.size
  let w0 := World.holding Tryz.prog os ⟨#[.cells #[.string ⟨#[69, 79, 70]⟩] 177, .cells #[.string ⟨#[110, 111, 32, 119, 114, 105, 116, 101, 32, 97, 110, 121, 32, 109, 111, 114, 101]⟩] 177], #[], []⟩
  let put (h : Array Obj) (g : Nat) (cs : Array Value) : Array Obj := h.modify g fun
    | .cells _ t frozen => .cells cs t frozen
    | o => o
  { w0 with heap := put (put w0.heap 0 #[.iface 115 (.pointer (some ⟨N, 0, none⟩))]) 1 #[.iface 115 (.pointer (some ⟨N + 1, 0, none⟩))] }

theorem laid_met (os : Os) (args : Array Value) : laidMet Tryz.prog [("io.EOF", Rows.laid_io_EOF), ("lldbengine/pub/lldb.errZZ", Rows.laid_lldbengine_pub_lldb_errZZ)] ((laidWorld os).forCall (fun _ _ => 0) ⟨#[], args, []⟩).memory :=
  laidMet_of_run' 8 (by kernel_rfl) (by kernel_rfl)

/-- an argument of bytes reads behind the call as ahead of it -/
theorem bytes_kept {H : Type} {enc : TypeId × Value → H} {W W' : World} {v : Value} {d : DataW H} {p : List MemPlace} (h : DataW.Trod enc Tryz.prog W 0 (fun _ => true) true 22 v d p) (hb : Below W.heap.size W W') (hlt : ∀ x ∈ p, x.block < W.heap.size) :
    DataW.Trod enc Tryz.prog W' 0 (fun b => decide (b < W.heap.size)) true 22 v d p :=
  Below.trod laidOut (by kernel_rfl) (of_decide_eq_true (by kernel_rfl)) h hb hlt

/-- an argument of calls reads behind the call as ahead of it -/
theorem ops_kept {H : Type} {enc : TypeId × Value → H} {W W' : World} {v : Value} {d : DataW H} {p : List MemPlace} (h : DataW.Trod enc Tryz.prog W 0 (fun _ => true) true 23 v d p) (hb : Below W.heap.size W W') (hlt : ∀ x ∈ p, x.block < W.heap.size) :
    DataW.Trod enc Tryz.prog W' 0 (fun b => decide (b < W.heap.size)) true 23 v d p :=
  Below.trod laidOut (by kernel_rfl) (of_decide_eq_true (by kernel_rfl)) h hb hlt

theorem gEOF : Tryz.prog.globalNamed "io.EOF" = some 0 := by kernel_rfl
theorem gErr : Tryz.prog.globalNamed "lldbengine/pub/lldb.errZZ" = some 1 := by kernel_rfl
theorem gEOFType : (Tryz.prog.globals[0]?).map (·.type) = some 71 := by kernel_rfl
theorem gErrType : (Tryz.prog.globals[1]?).map (·.type) = some 71 := by kernel_rfl
theorem star : "*" ++ "errors.errorString" = "*errors.errorString" := by decide
theorem rowErr (u : TypeId) (h : Tryz.prog.typeName? 3 u = some "*errors.errorString") : u = 115 :=
  typeName_ptr_named (nm := "errors.errorString") (by rw [star]; kernel_rfl) (by kernel_rfl) (by decide) u (by rw [star]; exact h)
theorem cellsErr : Tryz.prog.cellsOf 177 = 1 := by kernel_rfl
theorem cellsStr : Tryz.prog.cellsOf 9 = 1 := by kernel_rfl

set_option maxRecDepth 100000 in
/-- THE TWO VARIABLES, by what is laid in them. -/
theorem vars_of_laid {W : World} (h : laidMet Tryz.prog [("io.EOF", Rows.laid_io_EOF), ("lldbengine/pub/lldb.errZZ", Rows.laid_lldbengine_pub_lldb_errZZ)] W) : ∃ a b, Vars (Old W) W a b := by
  obtain ⟨ps, ⟨g0, t0, cs0, f0, p0, q0, hg0, ht0, hv0, hd0, ⟨g1, t1, cs1, f1, p1, q1, hg1, ht1, hv1, hd1, hq1, e1⟩, e0⟩, hnd, hrows⟩ := h
  obtain rfl := Option.some.inj (gEOF.symm.trans hg0)
  obtain rfl := Option.some.inj (gErr.symm.trans hg1)
  obtain rfl := Option.some.inj (gEOFType.symm.trans ht0)
  obtain rfl := Option.some.inj (gErrType.symm.trans ht1)
  have hq1' : q1 = [] := hq1
  subst hq1'
  subst e1
  subst e0
  obtain ⟨l0⟩ := cs0
  obtain ⟨l1⟩ := cs1
  have ok0 : ∀ u v, l0 = [.iface u v] → Value.okWide Tryz.prog W .any 0 u v := fun u v e => by
    subst e
    exact (hrows 0 0 (by simp [MemPlace.row])).2 u v (by simpa using World.var?_cell hg0 hv0 0)
  have ok1 : ∀ u v, l1 = [.iface u v] → Value.okWide Tryz.prog W .any 0 u v := fun u v e => by
    subst e
    exact (hrows 1 0 (by simp [MemPlace.row])).2 u v (by simpa using World.var?_cell hg1 hv1 0)
  obtain ⟨a0, s0, rfl, hc0, hs0, hz0, rfl⟩ := errorString_of_trod Tryz.underlying71 rowErr Tryz.underlying115 Tryz.underlying177 rfl rfl Tryz.underlying9 cellsErr cellsStr hd0 ok0
  obtain ⟨a1, s1, rfl, hc1, hs1, hz1, rfl⟩ := errorString_of_trod Tryz.underlying71 rowErr Tryz.underlying115 Tryz.underlying177 rfl rfl Tryz.underlying9 cellsErr cellsStr hd1 ok1
  have h0 : W.cell? ⟨0, 0, none⟩ = some (.iface 115 (.pointer (some a0))) := by simpa using World.var?_cell hg0 hv0 0
  have h1 : W.cell? ⟨1, 0, none⟩ = some (.iface 115 (.pointer (some a1))) := by simpa using World.var?_cell hg1 hv1 0
  exact ⟨a0, a1, (cellSpot h0).2, (cellSpot h1).2, h0, h1⟩

end Go.Proofs.YtkkliejgmgmebaaGreatDoor
