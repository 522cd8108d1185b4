/-
  impl.Collate.
-/
import Derived.Test.YtaoonpncnahhgaaDoorC9
namespace Go.Proofs.YtaoonpncnahhgaaDoor
open Go.RowKit

theorem areWf {L : List Sc} (h : ∀ s ∈ L, s.wf ∧ OkFacts s ∧ s.bn ≤ 2147483647) : ∀ x ∈ L.map avS, x.wf := by
  intro x hx
  obtain ⟨s, hs, rfl⟩ := List.mem_map.1 hx
  exact avS_wf _ (h s hs).1 (h s hs).2.1

set_option maxHeartbeats 1000000 in
theorem implCollate_any (a1 a2 : Option Addr) (n1 n2 c1 c2 : Nat) (L1 L2 : List Sc) (w : World) (hl1 : L1.length = n1) (hl2 : L2.length = n2) (hn1 : n1 ≤ 2147483647) (hn2 : n2 ≤ 2147483647)
    (h1 : rdL w.heap.size w a1 L1) (h2 : rdL w.heap.size w a2 L2) (ok1 : ∀ s ∈ L1, s.wf ∧ OkFacts s ∧ s.bn ≤ 2147483647) (ok2 : ∀ s ∈ L2, s.wf ∧ OkFacts s ∧ s.bn ≤ 2147483647) :
    Calls Tryd.prog 15 #[.slice a1 n1 c1, .slice a2 n2 c2] w fun e w' => e = .returned (.tuple #[.int .i64 (colA (L1.map avS) (L2.map avS)), .int .i64 0]) ∧ Below w.heap.size w w' := by
  have v1 := Lib.hid (values_any a1 n1 c1 L1 w hl1 hn1 h1 ok1)
  have v2 := Lib.hid (fun W (hb : Below w.heap.size w W) => values_any a2 n2 c2 L2 W hl2 hn2 ((h2.below hb (Nat.le_refl _)).mono hb.size) ok2)
  have wf1 := Lib.hid (areWf ok1)
  have wf2 := Lib.hid (areWf ok2)
  have HL1 := Lib.hid hl1
  have HL2 := Lib.hid hl2
  clear h1 h2 ok1 ok2 hl1 hl2
  go_enter Tryd.func15, Tryd.ntmps15
  (repeat (first | go_values | go_skip | go_guarded | go_step | go_upon))
  refine v1.out.mono ?_
  rintro e w1 ⟨b1, d1, rfl, hb1, r1⟩
  have R1 := Lib.hid r1
  clear r1
  dsimp only
  (repeat (first | go_values | go_skip | go_guarded | go_step | go_upon))
  refine (v2.out w1 hb1).mono ?_
  rintro e w2 ⟨b2, d2, rfl, hb2, r2⟩
  have R2 := Lib.hid r2
  clear r2
  dsimp only
  (repeat (first | go_values | go_skip | go_guarded | go_step | go_upon))
  refine (col_any b1 b2 n1 n2 d1 d2 _ _ w2 (by rw [List.length_map, HL1.out]) (by rw [List.length_map, HL2.out]) hn1 hn2 ((R1.out.below hb2 (Nat.le_refl _) (Nat.le_refl _)).mono hb2.size) R2.out wf1.out wf2.out).mono ?_
  rintro e w3 ⟨rfl, rfl⟩
  dsimp only
  (repeat (first | go_values | go_skip | go_guarded | go_step | go_upon))
  refine (kind_nil _).mono ?_
  rintro e w3 ⟨rfl, rfl⟩
  dsimp only
  (repeat (first | go_values | go_skip | go_guarded | go_step | go_upon))
  go_ret2
  exact ⟨rfl, hb1.trans (hb2.mono hb1.size)⟩

end Go.Proofs.YtaoonpncnahhgaaDoor
