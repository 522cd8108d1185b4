/-
  EncodeScalars.
-/
import Derived.Test.YtaoonpncnahhgaaDoorE2
namespace Go.Proofs.YtaoonpncnahhgaaDoor
open Go.RowKit

set_option maxRecDepth 100000 in
set_option maxHeartbeats 2000000 in
theorem exit20 (K : Act → World → Prop) (Q0 : Exit → Act → World → Prop) (w : World) (g m c : Nat) (a : Option Addr) (u : Nat → Value)
    (HE : Hid (∀ a', Sl20 (.pointer (some ⟨g, 0, none⟩)) .nilIface (.slice a m c) (.int .i64 m) (.int .i64 m) a' → Q0 (.exit 0) a' w)) :
    Code.wp Tryd.prog body20 (Exit.then K Q0) (frm20 (.pointer (some ⟨g, 0, none⟩)) .nilIface (.slice a m c) (.int .i64 m) (.int .i64 m) u) w := by
  conv => arg 2; whnf
  unfold frm20
  (repeat (first | go_values | go_skip | go_guarded | go_step | go_upon))
  exact HE.out _ ⟨rfl, rfl, rfl, rfl, rfl, rfl, rfl⟩

theorem flat_snoc {α β : Type} {L : List α} {k : Nat} {s : α} (f : α → List β) (h : L[k]? = some s) : (L.take (k + 1)).flatMap f = (L.take k).flatMap f ++ f s := by
  obtain ⟨l, e⟩ := List.getElem?_eq_some_iff.1 h
  rw [List.take_succ_eq_append_getElem l, List.flatMap_append, e]
  simp

theorem flat_le {α β : Type} (L : List α) (k : Nat) (f : α → List β) : ((L.take k).flatMap f).length ≤ (L.flatMap f).length := by
  conv => rhs; rw [← List.take_append_drop k L, List.flatMap_append, List.length_append]
  omega

theorem loop20 (Q0 : Exit → Act → World → Prop) (w W0 : World) (m c : Nat) (a : Option Addr) (xs : List AV) (encs : AV → List UInt8) (A : Act)
    (hA : Sl20 (.pointer (some ⟨w.heap.size, 0, none⟩)) .nilIface (.slice a m c) (.int .i64 m) (.int .i64 ((0 : Nat) : Int)) A)
    (hl : xs.length = m) (hm : m ≤ 2147483647) (hr : rdV w.heap.size w a xs) (hR : ∀ x ∈ xs, Round20 x (encs x)) (hlen : (xs.flatMap encs).length ≤ 100000000)
    (hW : Below w.heap.size w W0) (hB : Buf W0 w.heap.size [] (.slice none 0 0))
    (hexit : ∀ a' w' v', Sl20 (.pointer (some ⟨w.heap.size, 0, none⟩)) .nilIface (.slice a m c) (.int .i64 m) (.int .i64 m) a' → Buf w' w.heap.size (xs.flatMap encs) v' → Below w.heap.size w w' → Q0 (.exit 0) a' w') :
    Code.wp Tryd.prog (Code.loop body20) Q0 A W0 := by
  refine wp_loop (fun a' w' => ∃ (k : Nat) (v : Value), k ≤ m ∧ Buf w' w.heap.size ((xs.take k).flatMap encs) v ∧ Below w.heap.size w w' ∧ Sl20 (.pointer (some ⟨w.heap.size, 0, none⟩)) .nilIface (.slice a m c) (.int .i64 m) (.int .i64 k) a')
    (fun a' _ => m - (intOf (a'.tmps.getD 31 undef)).toNat) ⟨0, _, by omega, hB, hW, hA⟩ ?_
  rintro a' w' ⟨k, v, hk, hb, hbl, hs⟩
  have hmu : intOf (a'.tmps.getD 31 undef) = k := by rw [hs.h31]; rfl
  rw [hmu]
  clear hmu
  obtain ⟨u, rfl⟩ := hs.frm
  clear hs
  by_cases hlt : k < m
  · rcases hr with rfl | ⟨b, o, rfl, hlb, hc⟩
    · simp at hl; omega
    obtain ⟨x, hx⟩ : ∃ x, xs[k]? = some x := ⟨_, List.getElem?_eq_getElem (by omega)⟩
    obtain ⟨z, hz, hz2⟩ := hc k x hx
    refine hR x (List.mem_of_getElem? hx) _ _ w' b o m c k w.heap.size z v _ u hlt hm (Nat.le_trans (flat_le xs k encs) hlen) hlb ((hbl.cell (p := ⟨b, o + k, none⟩) hlb).trans hz) (avIs_below hz2 hbl (Nat.le_refl _) (Nat.le_refl _)) hb ?_
    intro a2 w2 v2 hs2 hb2 hbl2
    refine ⟨⟨k + 1, v2, by omega, ?_, hbl.trans hbl2, hs2⟩, ?_⟩
    · rw [flat_snoc encs hx]; exact hb2
    · rw [hs2.h31]; simp only [intOf]; omega
  · obtain rfl : k = m := by omega
    rw [List.take_of_length_le (by omega)] at hb
    exact exit20 _ _ _ _ _ _ _ _ (fun a2 hs2 => hexit a2 _ _ hs2 hb hbl)

set_option maxRecDepth 100000 in
set_option maxHeartbeats 2000000 in
theorem encs_any (a : Option Addr) (m c : Nat) (xs : List AV) (encs : AV → List UInt8) (w : World) (hl : xs.length = m) (hm : m ≤ 2147483647) (hr : rdV w.heap.size w a xs) (hR : ∀ x ∈ xs, Round20 x (encs x)) (hlen : (xs.flatMap encs).length ≤ 100000000) :
    Calls Tryd.prog 20 #[.slice a m c] w fun e w' => ∃ a' c', e = .returned (.tuple #[.slice a' (xs.flatMap encs).length c', .nilIface]) ∧ rdB w'.heap.size w' a' (xs.flatMap encs).length (xs.flatMap encs) ∧ Below w.heap.size w w' := by
  have HL := Lib.hid (fun Q0 A hA hW hB hE => loop20 Q0 w (w.alloc (.cells #[.slice none 0 0] 27)) m c a xs encs A hA hl hm hr hR hlen hW hB hE)
  clear hl hr hR hlen
  go_enter Tryd.func20, Tryd.ntmps20
  (repeat (first | go_values | go_skip | go_guarded | go_step | go_upon))
  refine HL.out _ _ ⟨rfl, rfl, rfl, rfl, rfl, rfl, rfl⟩ (below1 _ _) ⟨heap_new _ _, World.ownsRow_nil _ _ _ _⟩ ?_
  intro a' w' v' hs hb hbl
  obtain ⟨u, rfl⟩ := hs.frm
  clear hs
  have hcell := (cells_at hb.cell).1
  obtain ⟨va, vc, rfl⟩ := ownsRow_slice hb.own
  have HB := Lib.hid hb
  have HBL := Lib.hid hbl
  clear hb hbl
  unfold frm20
  (repeat (first | go_values | go_skip | go_guarded | go_step | go_upon))
  obtain ⟨a2, c2, e2, h1, h2, h3⟩ := owns_rdB rfl HB.out.own
  cases e2
  exact bodyPost_ret (v := .tuple #[.slice va (xs.flatMap encs).length vc, .nilIface]) (by simp [results, Tryd.results20, go_sem, hcell]) rfl ⟨va, vc, rfl, h3.1, HBL.out⟩

end Go.Proofs.YtaoonpncnahhgaaDoor
