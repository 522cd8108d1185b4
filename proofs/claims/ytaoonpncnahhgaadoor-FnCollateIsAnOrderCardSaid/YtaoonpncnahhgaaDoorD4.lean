/-
  DecodeScalars.
-/
import Derived.Test.YtaoonpncnahhgaaDoorD3
namespace Go.Proofs.YtaoonpncnahhgaaDoor
open Go.RowKit

theorem ownsRow_some {w : World} {base : Nat} {e : TypeId} {v : Value} {n : Nat} {xs : List Value} (h : w.ownsRow base e 1 v n xs) (hn : 0 < n) :
    ∃ g c, v = .slice (some ⟨g, 0, none⟩) n c ∧ ∀ (j : Nat) (u : Value), xs[j]? = some u → w.cell? ((⟨g, 0, none⟩ : Addr).add j) = some u := by
  rcases h.2 with ⟨rfl, rfl⟩ | ⟨g, cap, cur, rfl, hb, hg, hnc, hcm, hcs, htake⟩
  · omega
  · refine ⟨g, cap, rfl, fun j u hu => ?_⟩
    rw [add_eq, (cells_at hg).1, Nat.zero_add]
    have hj : j < n := by
      have h1 := h.1
      rcases Nat.lt_or_ge j xs.length with h' | h'
      · omega
      · rw [List.getElem?_eq_none h'] at hu; cases hu
    rw [← htake, List.getElem?_take_of_lt (by omega)] at hu
    simpa using hu

set_option maxRecDepth 100000 in
set_option maxHeartbeats 2000000 in
theorem decs_any (a : Option Addr) (c : Nat) (cs : List (List UInt8 × AV)) (bs : List UInt8) (hbs : bytesOf cs = bs) (w : World) (hne : cs ≠ []) (hlc : bs.length ≤ c) (hc : c ≤ 9223372036854775807) (hl : bs.length ≤ 100000000) (hk : cs.length ≤ 100000000)
    (hr : rdB w.heap.size w a bs.length bs) (hR : ∀ p ∈ cs, Round23 p.1 p.2 ∧ p.1 ≠ []) :
    Calls Tryd.prog 23 #[.slice a bs.length c] w fun e w' => ∃ a' c', e = .returned (.tuple #[.slice a' cs.length c', .nilIface]) ∧ rdV w'.heap.size w' a' (valsOf cs) ∧ Below w.heap.size w w' := by
  obtain ⟨i0, hi, hz0, hz1, hz2⟩ := info_parts info20
  obtain ⟨k, hkk⟩ : ∃ k, cs.length = k := ⟨_, rfl⟩
  have hk0 : 0 < k := by rw [← hkk]; exact List.length_pos_iff.2 hne
  have HL := Lib.hid (fun Q0 s4 A hA hE => loop23 Q0 w a c cs s4 A (by rw [hbs]; exact hA) (by rw [hbs]; exact hlc) hc (by rw [hbs]; exact hl) hk (by rw [hbs]; exact hr) hR hE)
  rw [hkk] at HL hk ⊢
  clear hr hR hbs hne
  have HKK := Lib.hid hkk
  clear hkk
  go_enter Tryd.func23, Tryd.ntmps23
  (repeat (first | go_values | go_skip | go_guarded | go_step | go_step3 | go_upon))
  refine HL.out _ _ _ ⟨rfl, rfl, rfl, rfl, rfl, rfl⟩ ?_
  intro a' w' b c' v' vs' hs hbl ho hv
  obtain ⟨u, rfl⟩ := hs.frm
  clear hs
  obtain ⟨g, d, rfl, hcells⟩ := ownsRow_some ho hk0
  have HO := Lib.hid ho
  have HV := Lib.hid hv
  have HBL := Lib.hid hbl
  have HCS := Lib.hid hcells
  clear hbl ho hv hcells
  unfold frm23
  (repeat (first | (at_builtin; refine wpList_append_own _ rfl (.const (.slice none 0 0)) (.tmp 487) 54 rfl w.heap.size 20 i0 _ 1 16 Tryd.underlying54 hi hz0 hz1 hz2 rfl (by decide) _ 0 [] rfl ?own ⟨g, 0, none⟩ k d vs' rfl ?c0 ?c1 ?c2 ?c3 ?c4 ?c5 ?_) | go_values | go_skip | go_guarded | go_step | go_step3 | go_upon))
  case own => exact World.ownsRow_nil _ _ _ _
  case c0 => exact HO.out.1
  case c1 => exact HCS.out
  case c2 =>
    intro u hu
    obtain ⟨j, hj⟩ := List.getElem?_of_mem hu
    have hjk : j < (valsOf cs).length := by
      have h1 := HO.out.1
      have h2 : (valsOf cs).length = k := by rw [List.length_map]; exact HKK.out
      rcases Nat.lt_or_ge j vs'.length with h | h
      · omega
      · rw [List.getElem?_eq_none h] at hj; cases hj
    obtain ⟨v, h1, h2⟩ := HV.out j _ (List.getElem?_eq_getElem hjk)
    rw [hj] at h1
    cases h1
    exact avIs_one h2
  case c3 => unfold maxLen; omega
  case c4 => omega
  case c5 => exact HBL.out.size
  intro v' w1 hown hgrow _
  rw [Nat.zero_add, List.nil_append] at hown
  have hV1 : areV w1.heap.size w1 (valsOf cs) vs' := fun i x hx => (HV.out i x hx).imp fun v ⟨h1, h2⟩ => ⟨h1, avIs_grown h2 hgrow (fun g h => by cases h)⟩
  obtain ⟨va, vc, rfl, hrd⟩ := rdV_of_owns (by rw [List.length_map]; exact HKK.out) hown hV1
  have hbb := HBL.out.grown hgrow HBL.out.size (fun g h => by cases h)
  have HB2 := Lib.hid hbb
  have HR2 := Lib.hid hrd
  clear hown hgrow hV1 hbb hrd
  (repeat (first | go_values | go_skip | go_guarded | go_step | go_step3 | go_upon))
  simp only [Exit.noGoto]
  go_ret2
  exact ⟨va, vc, rfl, HR2.out, HB2.out⟩

end Go.Proofs.YtaoonpncnahhgaaDoor
