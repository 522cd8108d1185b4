/-
  Collate's loop; Collate.
-/
import Derived.Test.YtaoonpncnahhgaaDoorRa
import Derived.Test.YtaoonpncnahhgaaDoorRb
namespace Go.Proofs.YtaoonpncnahhgaaDoor
open Go.RowKit

set_option maxRecDepth 100000 in
set_option maxHeartbeats 2000000 in
theorem exit30 (K : Act → World → Prop) (Q0 : Exit → Act → World → Prop) (w : World) (b1 b2 : Option Addr) (m1 d1 m2 d2 n1 n2 : Nat) (r : Int) (u : Nat → Value)
    (HE : Hid (∀ a', Sl (.slice b1 m1 d1) (.slice b2 m2 d2) (.int .i64 r) (.int .i64 n1) (.int .i64 n2) (.int .i64 0) (.slice b1 m1 d1) (.int .i64 m1) (.int .i64 m1) a' → Q0 (.exit 1) a' w)) :
    Code.wp Tryd.prog body30 (Exit.then K Q0) (frm (.slice b1 m1 d1) (.slice b2 m2 d2) (.int .i64 r) (.int .i64 n1) (.int .i64 n2) (.int .i64 0) (.slice b1 m1 d1) (.int .i64 m1) (.int .i64 m1) u) w := by
  conv => arg 2; whnf
  unfold frm
  (repeat (first | go_values | go_skip | go_guarded | go_step | go_upon))
  exact HE.out _ ⟨rfl, rfl, rfl, rfl, rfl, rfl, rfl, rfl, rfl, rfl, rfl, rfl⟩

theorem avIs_ct {_P : Value → Prop} {w : World} {x : AV} {v : Value} (h : Calls Tryd.prog 42 #[v] w fun e w' => (∃ u, e = .returned (.tuple #[u, .nilIface]) ∧ avIs w.heap.size w x u) ∧ w' = w) (z : Value) (hz : ∀ u, avIs w.heap.size w x u → u = z) :
    Hid (Calls Tryd.prog 42 #[v] w fun e w' => e = .returned (.tuple #[z, .nilIface]) ∧ w' = w) :=
  h.mono fun _ _ ⟨⟨u, h1, h2⟩, h3⟩ => ⟨hz u h2 ▸ h1, h3⟩

set_option maxHeartbeats 2000000 in
theorem loop30 (Q0 : Exit → Act → World → Prop) (w : World) (b1 : Option Addr) (m1 d1 : Nat) (zs : List AV) (b2 : Option Addr) (m2 d2 : Nat) (us : List AV) (n1 n2 : Nat) (r : Int) (a : Act)
    (ha : Sl (.slice b1 m1 d1) (.slice b2 m2 d2) (.int .i64 r) (.int .i64 n1) (.int .i64 n2) (.int .i64 0) (.slice b1 m1 d1) (.int .i64 m1) (.int .i64 ((0 : Nat) : Int)) a)
    (hl1 : zs.length = m1) (hl2 : us.length = m2) (hm : m1 ≤ m2) (hm2 : m2 ≤ 2147483647) (hr : r = 1 ∨ r = -1) (hz : rdV w.heap.size w b1 zs) (hu : rdV w.heap.size w b2 us) (wz : ∀ x ∈ zs, x.wf) (wu : ∀ x ∈ us, x.wf)
    (hret : ∀ a' : Act, a'.tmps.getD 6 undef = .int .i64 (r * lexA zs us) → a'.tmps.getD 7 undef = .nilIface → a'.defers = [] → a'.tmps.size = 477 → Q0 .ret a' w)
    (hexit : r * lexA zs us = r * lexA [] (us.drop m1) → ∀ a', Sl (.slice b1 m1 d1) (.slice b2 m2 d2) (.int .i64 r) (.int .i64 n1) (.int .i64 n2) (.int .i64 0) (.slice b1 m1 d1) (.int .i64 m1) (.int .i64 m1) a' → Q0 (.exit 1) a' w) :
    Code.wp Tryd.prog (Code.loop body30) Q0 a w := by
  refine wp_loop (fun a' w' => w' = w ∧ ∃ k : Nat, k ≤ m1 ∧ r * lexA (zs.drop k) (us.drop k) = r * lexA zs us ∧ Sl (.slice b1 m1 d1) (.slice b2 m2 d2) (.int .i64 r) (.int .i64 n1) (.int .i64 n2) (.int .i64 0) (.slice b1 m1 d1) (.int .i64 m1) (.int .i64 k) a')
    (fun a' _ => m1 - (intOf (a'.tmps.getD 97 undef)).toNat) ⟨rfl, 0, by omega, rfl, ha⟩ ?_
  rintro a' w' ⟨rfl, k, hk, hR, hs⟩
  have hmu : intOf (a'.tmps.getD 97 undef) = k := by rw [hs.h97]; rfl
  rw [hmu]
  clear hmu
  obtain ⟨u, rfl⟩ := hs.frm
  clear hs
  by_cases hlt : k < m1
  · rcases hz with rfl | ⟨b, o, rfl, hb, hc⟩
    · simp at hl1; omega
    rcases hu with rfl | ⟨b', o', rfl, hb', hc'⟩
    · simp at hl2; omega
    obtain ⟨x, hx⟩ : ∃ x, zs[k]? = some x := ⟨_, List.getElem?_eq_getElem (by omega)⟩
    obtain ⟨y, hy⟩ : ∃ y, us[k]? = some y := ⟨_, List.getElem?_eq_getElem (by omega)⟩
    obtain ⟨v, hv, hv2⟩ := hc k x hx
    obtain ⟨t, ht, ht2⟩ := hc' k y hy
    have HC := ct_any w'.heap.size x v w' (wz x (List.mem_of_getElem? hx)) hv2
    have HC' := Lib.hid (ct_any w'.heap.size y t w' (wu y (List.mem_of_getElem? hy)) ht2)
    have hic := isCt (wz x (List.mem_of_getElem? hx))
    have hic' := isCt (wu y (List.mem_of_getElem? hy))
    have HR := Lib.hid hr
    rw [lexA_drop hx hy] at hR
    have HRET : Hid (∀ c rq : Int, cmpA (ctOf x) (ctOf y) = c → c ≠ 0 → c * r = rq → ∀ a' : Act, a'.tmps.getD 6 undef = .int .i64 rq → a'.tmps.getD 7 undef = .nilIface → a'.defers = [] → a'.tmps.size = 477 → Q0 .ret a' w') := by
      intro c rq e hc0 hrq a' h6 h7 h8 h9
      refine hret a' ?_ h7 h8 h9
      rw [h6, ← hR, e, if_neg hc0, ← hrq, Int.mul_comm]
    have HNEXT : Hid (cmpA (ctOf x) (ctOf y) = 0 → ∀ a', Sl (.slice (some ⟨b, o, none⟩) m1 d1) (.slice (some ⟨b', o', none⟩) m2 d2) (.int .i64 r) (.int .i64 n1) (.int .i64 n2) (.int .i64 0) (.slice (some ⟨b, o, none⟩) m1 d1) (.int .i64 m1) (.int .i64 ((k + 1 : Nat) : Int)) a' →
        (w' = w' ∧ ∃ k : Nat, k ≤ m1 ∧ r * lexA (zs.drop k) (us.drop k) = r * lexA zs us ∧ Sl (.slice (some ⟨b, o, none⟩) m1 d1) (.slice (some ⟨b', o', none⟩) m2 d2) (.int .i64 r) (.int .i64 n1) (.int .i64 n2) (.int .i64 0) (.slice (some ⟨b, o, none⟩) m1 d1) (.int .i64 m1) (.int .i64 k) a') ∧ m1 - (intOf (a'.tmps.getD 97 undef)).toNat < m1 - ((k : Int)).toNat) := by
      intro e a' ha'
      refine ⟨⟨rfl, k + 1, by omega, ?_, ha'⟩, ?_⟩
      · rw [← hR, e, if_pos rfl]
      · rw [ha'.h97]; simp only [intOf]; omega
    have hbyt : ∀ xs, ctOf x = .byt xs → ∃ ax nx cx, rdB w'.heap.size w' ax nx xs ∧ Calls Tryd.prog 42 #[v] w' fun e w'' => e = .returned (.tuple #[.iface 27 (.slice ax nx cx), .nilIface]) ∧ w'' = w' := by
      intro xs e
      cases x <;> simp only [ctOf, AV.byt.injEq, reduceCtorEq] at e
      subst e
      obtain ⟨ax, nx, cx, rfl, -, -, h5, -⟩ := hv2
      exact ⟨ax, nx, cx, h5, ct_byt ax nx cx w'⟩
    clear hR hret hexit hx hy hv2 ht2 hc hc' wz wu
    generalize ctOf x = cx at *
    generalize ctOf y = cy at *
    cases hic
    case nil => exact round_nil _ _ _ _ _ _ _ _ _ _ _ _ _ _ _ _ _ _ _ hic' hlt (by omega) hm2 (by omega) HR hv ht (avIs_ct (_P := fun _ => True) HC _ fun u h => h) HC' HRET HNEXT
    case bool p => exact round_bool _ _ _ _ _ _ _ _ _ _ _ _ _ _ _ _ _ p _ _ hic' hlt (by omega) hm2 (by omega) HR hv ht (avIs_ct (_P := fun _ => True) HC _ fun u h => h) HC' HRET HNEXT
    case i64 n q1 q2 => exact round_i64 _ _ _ _ _ _ _ _ _ _ _ _ _ _ _ _ _ n _ _ q1 q2 hic' hlt (by omega) hm2 (by omega) HR hv ht (avIs_ct (_P := fun _ => True) HC _ fun u h => h) HC' HRET HNEXT
    case u64 n q1 => exact round_u64 _ _ _ _ _ _ _ _ _ _ _ _ _ _ _ _ _ n _ _ q1 hic' hlt (by omega) hm2 (by omega) HR hv ht (avIs_ct (_P := fun _ => True) HC _ fun u h => h) HC' HRET HNEXT
    case f64 n => exact round_f64 _ _ _ _ _ _ _ _ _ _ _ _ _ _ _ _ _ n _ _ hic' hlt (by omega) hm2 (by omega) HR hv ht (avIs_ct (_P := fun _ => True) HC _ fun u h => h) HC' HRET HNEXT
    case c128 p q => exact round_c128 _ _ _ _ _ _ _ _ _ _ _ _ _ _ _ _ _ p q _ _ hic' hlt (by omega) hm2 (by omega) HR hv ht (avIs_ct (_P := fun _ => True) HC _ fun u h => h) HC' HRET HNEXT
    case str xs => exact round_str _ _ _ _ _ _ _ _ _ _ _ _ _ _ _ _ _ xs _ _ hic' hlt (by omega) hm2 (by omega) HR hv ht (avIs_ct (_P := fun _ => True) HC _ fun u h => h) HC' HRET HNEXT
    case byt xs =>
      obtain ⟨ax, nx, cx, h5, h6⟩ := hbyt xs rfl
      exact round_byt _ _ _ _ _ _ _ _ _ _ _ _ _ _ _ _ _ ax nx cx xs _ _ h5 hic' hlt (by omega) hm2 (by omega) HR hv ht h6 HC' HRET HNEXT
  · obtain rfl : k = m1 := by omega
    refine exit30 _ _ _ _ _ _ _ _ _ _ _ _ _ (hexit ?_)
    rw [← hR, List.drop_eq_nil_of_le (by omega)]

end Go.Proofs.YtaoonpncnahhgaaDoor
