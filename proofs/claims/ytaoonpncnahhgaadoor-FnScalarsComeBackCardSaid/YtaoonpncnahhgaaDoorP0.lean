/-
  What the rows of the laws ask besides the walks: the two variables that are laid; an argument that reads behind the call as ahead of it.
-/
import Derived.Test.YtaoonpncnahhgaaDoorCards
import Derived.Test.YtaoonpncnahhgaaDoorTie
import Derived.Test.YtaoonpncnahhgaaDoorA1
import Derived.ProofKit
import Derived.OpenShut
import Derived.Carry
import Derived.Deep.DeepHandedRow
import Derived.Deep.DeepWitnessRowRef
namespace Go.Proofs.YtaoonpncnahhgaaDoor
open Go.ChangeShapes Go.WideShapes Go.ChangeAt Go.RowKit

theorem own : ownKnob Tryd.prog.godebug = none := by kernel_rfl
theorem laidOut : laidOutB Tryd.prog = true := by kernel_rfl

/-- A WORLD FOR THE WITNESS: the settled one with two blocks more, the two errors; the two variables hold them. -/
noncomputable def laidWorld (os : Os) : World :=
  let N := (World.settled Tryd.prog os).heap.size
  let w0 := World.holding Tryd.prog os ⟨#[.cells #[.string ⟨#[69, 79, 70]⟩] 111, .cells #[.string ⟨#[110, 111, 32, 119, 114, 105, 116, 101, 32, 97, 110, 121, 32, 109, 111, 114, 101]⟩] 111], #[], []⟩
  let put (h : Array Obj) (g : Nat) (cs : Array Value) : Array Obj := h.modify g fun
    | .cells _ t frozen => .cells cs t frozen
    | o => o
  { w0 with heap := put (put w0.heap 0 #[.iface 109 (.pointer (some ⟨N, 0, none⟩))]) 1 #[.iface 109 (.pointer (some ⟨N + 1, 0, none⟩))] }

theorem laid_met (os : Os) (args : Array Value) : laidMet Tryd.prog Rows.fnCollateRow.laid ((laidWorld os).forCall (fun _ _ => 0) ⟨#[], args, []⟩).memory :=
  laidMet_of_run' 8 (by kernel_rfl) (by kernel_rfl)

/-- an argument reads behind the call as ahead of it -/
theorem arg_kept {H : Type} {enc : TypeId × Value → H} {W W' : World} {v : Value} {d : DataW H} {p : List MemPlace} (h : DataW.Trod enc Tryd.prog W 0 (fun _ => true) true 22 v d p) (hb : Below W.heap.size W W') (hlt : ∀ x ∈ p, x.block < W.heap.size) :
    DataW.Trod enc Tryd.prog W' 0 (fun b => decide (b < W.heap.size)) true 22 v d p :=
  Below.trod laidOut (by kernel_rfl) (of_decide_eq_true (by kernel_rfl)) h hb hlt

end Go.Proofs.YtaoonpncnahhgaaDoor
