/-
  impl.scalar at what is decoded.
-/
import Derived.Test.YtaoonpncnahhgaaDoorC5
namespace Go.Proofs.YtaoonpncnahhgaaDoor
open Go.RowKit

/-- impl.scalar at this value -/
def Scal25 (y : AV) : Prop :=
  ∀ (v : Value) (w : World), avIs w.heap.size w y v → Calls Tryd.prog 25 #[v] w fun e w' => ∃ s : Sc, e = .returned s.v ∧ avS s = y ∧ s.wf ∧ OkFacts s ∧ s.bn ≤ 2147483647 ∧ Below w.heap.size w w' ∧ rdB5 w'.heap.size w' s.ba s.bn s.bytes

theorem rdB5_none (B : Nat) (w : World) : rdB5 B w none 0 [] := ⟨⟨rfl, .inl rfl⟩, .inl rfl⟩

theorem ok_i64 (n : Int) (h0 : -9223372036854775808 ≤ n) (h1 : n ≤ 9223372036854775807) :
    avS ⟨6, n, 0, 0, 0, none, 0, 0, []⟩ = .i64 n ∧ Sc.wf ⟨6, n, 0, 0, 0, none, 0, 0, []⟩ ∧ OkFacts ⟨6, n, 0, 0, 0, none, 0, 0, []⟩ := by
  refine ⟨rfl, ⟨?_, ?_, ?_, ?_, ?_, ?_, ?_, ?_, ?_, ?_, ?_⟩, ⟨?_, ?_, ?_, ?_, ?_, ?_, ?_, ?_, ?_, ?_⟩⟩ <;> simp <;> omega

set_option maxRecDepth 100000 in
set_option maxHeartbeats 1000000 in
theorem scal_i64 (n : Int) (h0 : -9223372036854775808 ≤ n) (h1 : n ≤ 9223372036854775807) : Scal25 (.i64 n) := by
  intro v w hv
  subst hv
  show Calls Tryd.prog 25 #[.iface 2 (.int .i64 n)] w _
  go_enter Tryd.func25, Tryd.ntmps25
  (repeat (first | go_values | go_skip | go_guarded | go_step | go_step3 | go_upon))
  obtain ⟨a1, a2, a3⟩ := ok_i64 n h0 h1
  exact bodyPost_ret (v := Sc.v ⟨6, n, 0, 0, 0, none, 0, 0, []⟩) (results_cell_row (P := Tryd.prog) Tryd.results25 _ _ w.heap.size 34 _ _ _ rfl (heap_alloc_new _ _) Tryd.underlying34 rfl (by kernel_rfl)) rfl ⟨_, rfl, a1, a2, a3, by simp, below1 _ _, rdB5_none _ _⟩

end Go.Proofs.YtaoonpncnahhgaaDoor
