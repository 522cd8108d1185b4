/-
  impl.Encode.
-/
import Derived.Test.YtaoonpncnahhgaaDoorE3
namespace Go.Proofs.YtaoonpncnahhgaaDoor
open Go.RowKit

set_option maxHeartbeats 1000000 in
theorem implEncode_any (a : Option Addr) (n c : Nat) (L : List Sc) (encs : AV → List UInt8) (w : World) (hl : L.length = n) (hn : n ≤ 2147483647) (h : rdL w.heap.size w a L) (ok : ∀ s ∈ L, s.wf ∧ OkFacts s ∧ s.bn ≤ 2147483647)
    (hR : ∀ x ∈ L.map avS, Round20 x (encs x)) (bs : List UInt8) (hbs : (L.map avS).flatMap encs = bs) (hlen : bs.length ≤ 100000000) :
    Calls Tryd.prog 9 #[.slice a n c] w fun e w' => ∃ a' c', e = .returned (.tuple #[.slice a' bs.length c', .int .i64 0]) ∧ rdB w'.heap.size w' a' bs.length bs ∧ Below w.heap.size w w' := by
  have v1 := Lib.hid (values_any a n c L w hl hn h ok)
  have v2 := Lib.hid (fun W b d hr => encs_any b n d (L.map avS) encs W (by rw [List.length_map, hl]) hn hr hR (by rw [hbs]; exact hlen))
  rw [hbs] at v2
  clear h ok hl hR hlen hbs
  go_enter Tryd.func9, Tryd.ntmps9
  (repeat (first | go_values | go_skip | go_guarded | go_step | go_upon))
  refine v1.out.mono ?_
  rintro e w1 ⟨b1, d1, rfl, hb1, r1⟩
  have R1 := Lib.hid r1
  clear r1
  dsimp only
  (repeat (first | go_values | go_skip | go_guarded | go_step | go_upon))
  refine (v2.out w1 b1 d1 R1.out).mono ?_
  rintro e w2 ⟨b2, d2, rfl, r2, hb2⟩
  have R2 := Lib.hid r2
  clear r2
  dsimp only
  (repeat (first | go_values | go_skip | go_guarded | go_step | go_upon))
  refine (kind_nil _).mono ?_
  rintro e w3 ⟨rfl, rfl⟩
  dsimp only
  (repeat (first | go_values | go_skip | go_guarded | go_step | go_upon))
  go_ret2
  exact ⟨b2, d2, rfl, R2.out, hb1.trans (hb2.mono hb1.size)⟩

end Go.Proofs.YtaoonpncnahhgaaDoor
