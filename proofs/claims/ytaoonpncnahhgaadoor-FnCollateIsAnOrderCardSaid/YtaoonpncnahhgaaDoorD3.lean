/-
  DecodeScalars.
-/
import Derived.Test.YtaoonpncnahhgaaDoorD2
namespace Go.Proofs.YtaoonpncnahhgaaDoor
open Go.RowKit

set_option maxRecDepth 100000 in
set_option maxHeartbeats 2000000 in
theorem exit23 (K : Act → World → Prop) (Q0 : Exit → Act → World → Prop) (w : World) (c : Nat) (a : Option Addr) (v s4 : Value) (u : Nat → Value)
    (HE : Hid (∀ a', Sl23 (.slice a 0 c) v .nilIface s4 a' → Q0 (.exit 0) a' w)) :
    Code.wp Tryd.prog body23 (Exit.then K Q0) (frm23 (.slice a 0 c) v .nilIface s4 u) w := by
  conv => arg 2; whnf
  unfold frm23
  (repeat (first | go_values | go_skip | go_guarded | go_step | go_upon))
  exact HE.out _ ⟨rfl, rfl, rfl, rfl, rfl, rfl⟩

/-- the bytes, the values of pieces -/
abbrev bytesOf (cs : List (List UInt8 × AV)) : List UInt8 := cs.flatMap Prod.fst
abbrev valsOf (cs : List (List UInt8 × AV)) : List AV := cs.map Prod.snd

theorem loop23 (Q0 : Exit → Act → World → Prop) (w : World) (a : Option Addr) (c : Nat) (cs : List (List UInt8 × AV)) (s4 : Value) (A : Act)
    (hA : Sl23 (.slice a (bytesOf cs).length c) (.slice none 0 0) .nilIface s4 A) (hlc : (bytesOf cs).length ≤ c) (hc : c ≤ 9223372036854775807) (hl : (bytesOf cs).length ≤ 100000000) (hk : cs.length ≤ 100000000)
    (hr : rdB w.heap.size w a (bytesOf cs).length (bytesOf cs)) (hR : ∀ p ∈ cs, Round23 p.1 p.2 ∧ p.1 ≠ [])
    (hexit : ∀ a' w' b c' v' vs', Sl23 (.slice b 0 c') v' .nilIface s4 a' → Below w.heap.size w w' → w'.ownsRow w.heap.size 20 1 v' cs.length vs' → areV w'.heap.size w' (valsOf cs) vs' → Q0 (.exit 0) a' w') :
    Code.wp Tryd.prog (Code.loop body23) Q0 A w := by
  refine wp_loop (fun a' w' => ∃ (j : Nat) (b : Option Addr) (c' : Nat) (v : Value) (vs : List Value), j ≤ cs.length ∧ Sl23 (.slice b (bytesOf (cs.drop j)).length c') v .nilIface s4 a' ∧ (bytesOf (cs.drop j)).length ≤ c' ∧ c' ≤ 9223372036854775807 ∧
      rdB w.heap.size w' b (bytesOf (cs.drop j)).length (bytesOf (cs.drop j)) ∧ Below w.heap.size w w' ∧ w'.ownsRow w.heap.size 20 1 v j vs ∧ areV w'.heap.size w' (valsOf (cs.take j)) vs)
    (fun a' _ => match a'.tmps.getD 0 undef with | .slice _ n _ => n | _ => 0) ⟨0, a, c, _, [], Nat.zero_le _, hA, hlc, hc, hr, Below.refl _ _, World.ownsRow_nil _ _ _ _, fun i x hx => by simp at hx⟩ ?_
  rintro a' w' ⟨j, b, c', v, vs, hj, hs, h1, h2, h3, h4, h5, h6⟩
  have hmu : (match a'.tmps.getD 0 undef with | .slice _ n _ => n | _ => 0) = (bytesOf (cs.drop j)).length := by rw [hs.h0]
  rw [hmu]
  clear hmu
  obtain ⟨u, rfl⟩ := hs.frm
  clear hs
  by_cases hlt : j < cs.length
  · obtain ⟨p, hp⟩ : ∃ p, cs[j]? = some p := ⟨_, List.getElem?_eq_getElem hlt⟩
    have hd : cs.drop j = p :: cs.drop (j + 1) := by
      obtain ⟨l, e⟩ := List.getElem?_eq_some_iff.1 hp
      rw [List.drop_eq_getElem_cons l, e]
    have hbd : bytesOf (cs.drop j) = p.1 ++ bytesOf (cs.drop (j + 1)) := by rw [hd]; rfl
    have htk : valsOf (cs.take (j + 1)) = valsOf (cs.take j) ++ [p.2] := by
      obtain ⟨l, e⟩ := List.getElem?_eq_some_iff.1 hp
      unfold valsOf
      rw [List.take_succ_eq_append_getElem l, List.map_append, e]; rfl
    have hle : (bytesOf (cs.drop j)).length ≤ 100000000 := by
      refine Nat.le_trans ?_ hl
      unfold bytesOf
      conv => rhs; rw [← List.take_append_drop j cs, List.flatMap_append, List.length_append]
      omega
    obtain ⟨hr1, hr2⟩ := hR p (List.mem_of_getElem? hp)
    rw [hbd] at h1 h3 hle ⊢
    refine hr1 _ _ w w' b c' j _ v vs _ s4 u h1 h2 hle (by omega) h3 h4 h5 (by rw [List.length_map, List.length_take]; omega) h6 ?_
    intro a2 w2 b2 c2 v2 vs2 hs2 g1 g2 g3 g4 g5 g6
    refine ⟨⟨j + 1, b2, c2, v2, vs2, by omega, hs2, g1, g2, g3, g4, g5, by rw [htk]; exact g6⟩, ?_⟩
    rw [hs2.h0, List.length_append]
    have : 0 < p.1.length := List.length_pos_iff.2 hr2
    show (bytesOf _).length < _
    omega
  · obtain rfl : j = cs.length := by omega
    rw [List.drop_length] at *
    rw [List.take_length] at h6
    exact exit23 _ _ _ _ _ _ _ _ (fun a2 hs2 => hexit a2 _ _ _ _ _ hs2 h4 h5 h6)

end Go.Proofs.YtaoonpncnahhgaaDoor
