/-
  What the rows of the laws ask besides the walks: the two variables that are laid; arguments that read behind the call as ahead of it.
-/
import Derived.Test.YtkkliejgmgmebaaDoorCards
import Derived.Test.YtkkliejgmgmebaaDoorTie
import Derived.Test.YtkkliejgmgmebaaDoorP1
import Derived.Test.YtkkliejgmgmebaaDoorM3
import Derived.ProofKit
import Derived.OpenShut
import Derived.Carry
import Derived.LaidLaws
import Derived.Stop.ErrReads
import Derived.Deep.DeepHandedRow
import Derived.Deep.DeepWitnessRowRef
namespace Go.Proofs.YtkkliejgmgmebaaDoor
open Go.ChangeShapes Go.WideShapes Go.ChangeAt Go.RowKit

theorem own : ownKnob Tryd.prog.godebug = none := by kernel_rfl
theorem laidOut : laidOutB Tryd.prog = true := by kernel_rfl

/-- A WORLD FOR THE WITNESS: the settled one with two blocks more, the two errors; the two variables hold them. -/
noncomputable def laidWorld (os : Os) : World :=
  let N := (World.settled Tryd.prog os).heap.size
  let w0 := World.holding Tryd.prog os ⟨#[.cells #[.string ⟨#[69, 79, 70]⟩] 123, .cells #[.string ⟨#[110, 111, 32, 119, 114, 105, 116, 101, 32, 97, 110, 121, 32, 109, 111, 114, 101]⟩] 123], #[], []⟩
  let put (h : Array Obj) (g : Nat) (cs : Array Value) : Array Obj := h.modify g fun
    | .cells _ t frozen => .cells cs t frozen
    | o => o
  { w0 with heap := put (put w0.heap 0 #[.iface 85 (.pointer (some ⟨N, 0, none⟩))]) 1 #[.iface 85 (.pointer (some ⟨N + 1, 0, none⟩))] }

theorem laid_met (os : Os) (args : Array Value) : laidMet Tryd.prog [("io.EOF", Rows.laid_io_EOF), ("lldbengine/pub/lldb.errZZ", Rows.laid_lldbengine_pub_lldb_errZZ)] ((laidWorld os).forCall (fun _ _ => 0) ⟨#[], args, []⟩).memory :=
  laidMet_of_run' 8 (by kernel_rfl) (by kernel_rfl)

/-- an argument of bytes reads behind the call as ahead of it -/
theorem bytes_kept {H : Type} {enc : TypeId × Value → H} {W W' : World} {v : Value} {d : DataW H} {p : List MemPlace} (h : DataW.Trod enc Tryd.prog W 0 (fun _ => true) true 22 v d p) (hb : Below W.heap.size W W') (hlt : ∀ x ∈ p, x.block < W.heap.size) :
    DataW.Trod enc Tryd.prog W' 0 (fun b => decide (b < W.heap.size)) true 22 v d p :=
  Below.trod laidOut (by kernel_rfl) (of_decide_eq_true (by kernel_rfl)) h hb hlt

/-- an argument of calls reads behind the call as ahead of it -/
theorem ops_kept {H : Type} {enc : TypeId × Value → H} {W W' : World} {v : Value} {d : DataW H} {p : List MemPlace} (h : DataW.Trod enc Tryd.prog W 0 (fun _ => true) true 23 v d p) (hb : Below W.heap.size W W') (hlt : ∀ x ∈ p, x.block < W.heap.size) :
    DataW.Trod enc Tryd.prog W' 0 (fun b => decide (b < W.heap.size)) true 23 v d p :=
  Below.trod laidOut (by kernel_rfl) (of_decide_eq_true (by kernel_rfl)) h hb hlt

theorem gEOF : Tryd.prog.globalNamed "io.EOF" = some 0 := by kernel_rfl
theorem gErr : Tryd.prog.globalNamed "lldbengine/pub/lldb.errZZ" = some 1 := by kernel_rfl
theorem gEOFType : (Tryd.prog.globals[0]?).map (·.type) = some 71 := by kernel_rfl
theorem gErrType : (Tryd.prog.globals[1]?).map (·.type) = some 71 := by kernel_rfl
theorem star : "*" ++ "errors.errorString" = "*errors.errorString" := by decide
theorem rowErr (u : TypeId) (h : Tryd.prog.typeName? 3 u = some "*errors.errorString") : u = 85 :=
  typeName_ptr_named (nm := "errors.errorString") (by rw [star]; kernel_rfl) (by kernel_rfl) (by decide) u (by rw [star]; exact h)
theorem cellsErr : Tryd.prog.cellsOf 123 = 1 := by kernel_rfl
theorem cellsStr : Tryd.prog.cellsOf 9 = 1 := by kernel_rfl

set_option maxRecDepth 100000 in
/-- THE TWO VARIABLES, by what is laid in them. -/
theorem vars_of_laid {W : World} (h : laidMet Tryd.prog [("io.EOF", Rows.laid_io_EOF), ("lldbengine/pub/lldb.errZZ", Rows.laid_lldbengine_pub_lldb_errZZ)] W) : ∃ a b, Vars (Old W) W a b := by
  obtain ⟨ps, ⟨g0, t0, cs0, f0, p0, q0, hg0, ht0, hv0, hd0, ⟨g1, t1, cs1, f1, p1, q1, hg1, ht1, hv1, hd1, hq1, e1⟩, e0⟩, hnd, hrows⟩ := h
  obtain rfl := Option.some.inj (gEOF.symm.trans hg0)
  obtain rfl := Option.some.inj (gErr.symm.trans hg1)
  obtain rfl := Option.some.inj (gEOFType.symm.trans ht0)
  obtain rfl := Option.some.inj (gErrType.symm.trans ht1)
  have hq1' : q1 = [] := hq1
  subst hq1'
  subst e1
  subst e0
  obtain ⟨l0⟩ := cs0
  obtain ⟨l1⟩ := cs1
  have ok0 : ∀ u v, l0 = [.iface u v] → Value.okWide Tryd.prog W .any 0 u v := fun u v e => by
    subst e
    exact (hrows 0 0 (by simp [MemPlace.row])).2 u v (by simpa using World.var?_cell hg0 hv0 0)
  have ok1 : ∀ u v, l1 = [.iface u v] → Value.okWide Tryd.prog W .any 0 u v := fun u v e => by
    subst e
    exact (hrows 1 0 (by simp [MemPlace.row])).2 u v (by simpa using World.var?_cell hg1 hv1 0)
  obtain ⟨a0, s0, rfl, hc0, hs0, hz0, rfl⟩ := errorString_of_trod Tryd.underlying71 rowErr Tryd.underlying85 Tryd.underlying123 rfl rfl Tryd.underlying9 cellsErr cellsStr hd0 ok0
  obtain ⟨a1, s1, rfl, hc1, hs1, hz1, rfl⟩ := errorString_of_trod Tryd.underlying71 rowErr Tryd.underlying85 Tryd.underlying123 rfl rfl Tryd.underlying9 cellsErr cellsStr hd1 ok1
  have h0 : W.cell? ⟨0, 0, none⟩ = some (.iface 85 (.pointer (some a0))) := by simpa using World.var?_cell hg0 hv0 0
  have h1 : W.cell? ⟨1, 0, none⟩ = some (.iface 85 (.pointer (some a1))) := by simpa using World.var?_cell hg1 hv1 0
  exact ⟨a0, a1, (cellSpot h0).2, (cellSpot h1).2, h0, h1⟩

end Go.Proofs.YtkkliejgmgmebaaDoor
