/-
  decodeFloat at what encFloat made.
-/
import Derived.Test.YtaoonpncnahhgaaDoorD9
namespace Go.Proofs.YtaoonpncnahhgaaDoor
open Go.RowKit

/-- these bytes are decoded to this float -/
def DecF (n : Nat) (xs : List UInt8) (U : Nat) : Prop :=
  ∀ (w : World) (a : Option Addr) (c : Nat), rdB w.heap.size w a n xs → Calls Tryd.prog 39 #[.slice a n c] w fun e w' => e = .returned (.float .f64 U) ∧ w' = w

set_option maxRecDepth 100000 in
theorem decF_nil : DecF 0 [] 0 := by
  intro w a c _
  have hfb := run_frombits
  go_enter Tryd.func39, Tryd.ntmps39
  (repeat (first | go_values | go_skip | go_guarded | go_step | go_upon))
  go_loopw [3, 8] (fun v i wr => v = .int .u64 0 ∧ i = .int .i64 0 ∧ wr = w) (fun _ _ _ => 0)
  case atStart => exact ⟨rfl, rfl, rfl⟩
  case round =>
    obtain ⟨rfl, rfl, rfl⟩ := hrel
    have hfb0 : ∀ w : World, (callFunc 54 #[.int .u64 0]).run Tryd.prog w = .ok (.value (.float .f64 0)) w := fun w => run_frombits 0 w
    (repeat (first | go_values | go_skip | go_guarded | go_step | go_upon))
    go_ret
    exact ⟨rfl, rfl⟩

end Go.Proofs.YtaoonpncnahhgaaDoor
