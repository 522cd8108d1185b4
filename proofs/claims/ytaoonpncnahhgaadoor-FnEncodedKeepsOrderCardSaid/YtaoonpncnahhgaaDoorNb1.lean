/-
  The rounds of DecodeScalars over bytes: tags 21, 22, 23, 24, 25, 26, 27, 28, 29, 30.
-/
import Derived.Test.YtaoonpncnahhgaaDoorD11
namespace Go.Proofs.YtaoonpncnahhgaaDoor
open Go.RowKit

set_option maxRecDepth 100000 in
set_option maxHeartbeats 4000000 in
theorem round23_b0 (xs : List UInt8) (hxl : xs.length = 0) : Round23 (21 :: xs) (.byt xs) := by
  obtain ⟨i0, hi, hz0, hz1, hz2⟩ := info_parts info20
  obtain ⟨ib, hib, hb0, hb1, hb2⟩ := info_parts info5
  intro K Q0 w wr a c j rest v vs ys s4 u hlc hc hl hk hr hB hO hx hV hnext
  obtain ⟨b, o, rfl, hlt, hcell⟩ : ∃ b o, a = some ⟨b, o, none⟩ ∧ b < w.heap.size ∧ ∀ (i : Nat) (x : UInt8), ((21 :: xs) ++ rest)[i]? = some x → wr.cell? ⟨b, o + i, none⟩ = some (.int .u8 (x.toNat : Int)) := by
    rcases hr.2 with h | h
    · cases h
    · exact h
  have hc0 : wr.cell? ⟨b, o, none⟩ = some (.int .u8 21) := hcell 0 21 rfl
  have hlen : ((21 :: xs) ++ rest).length = rest.length + (1) := by simp only [List.length_append, List.length_cons]; omega
  have hch : (21 :: xs).length = 1 := by simp only [List.length_cons]; omega
  have hxs : ∀ (i : Nat) (x : UInt8), xs[i]? = some x → wr.cell? ⟨b, o + 1 + i, none⟩ = some (.int .u8 (x.toNat : Int)) := fun i x hi => by
    have hil : i < xs.length := (List.getElem?_eq_some_iff.1 hi).1
    have := hcell (i + 1) x (by rw [List.cons_append, List.getElem?_cons_succ, List.getElem?_append_left hil]; exact hi)
    rwa [show o + (i + 1) = o + 1 + i by omega] at this
  have hrs : ∀ (i : Nat) (x : UInt8), rest[i]? = some x → wr.cell? ⟨b, o + (1) + i, none⟩ = some (.int .u8 (x.toNat : Int)) := fun i x hi => by
    have := hcell (i + (1)) x (by rw [List.getElem?_append_right (by omega), hch, Nat.add_sub_cancel]; exact hi)
    rwa [show o + (i + (1)) = o + (1) + i by omega] at this
  rw [hlen] at hlc hl
  rw [hlen]
  have HXS := Lib.hid hxs
  have HRS := Lib.hid hrs
  have HN := Lib.hid hnext
  have HO := Lib.hid hO
  have HV := Lib.hid hV
  have HX := Lib.hid hx
  have HXL := Lib.hid hxl
  generalize hm : rest.length = m at *
  have HM := Lib.hid hm
  clear hr hcell hnext hlen hO hV hx hm hxs hrs hxl hch
  conv => arg 2; whnf
  unfold frm23
  have hu : avIs wr.heap.size wr (.byt xs) (.iface 27 (.slice none 0 0)) := ⟨none, 0, 0, rfl, Nat.le_refl _, by omega, ⟨HXL.out, .inl (List.eq_nil_of_length_eq_zero HXL.out)⟩, .inl (List.eq_nil_of_length_eq_zero HXL.out)⟩
  have B1 : Below wr.heap.size wr wr := Below.refl _ _
  have HO1 := HO
  have HV1 := HV
  have HU := Lib.hid hu
  have BW := hB
  clear hu
  (repeat (first | (at_builtin; refine wpList_append_zero rfl (.const (.slice none 0 0)) (.tmp 197) rfl hib none 0 0 (Nat.le_refl _) (fun _ => ⟨rfl, rfl⟩) _ _ rfl rfl ?_) | (at_builtin; refine wpList_append_own _ rfl (.tmp 193) (.tmp 200) 54 rfl w.heap.size 20 i0 _ 1 16 Tryd.underlying54 hi hz0 hz1 hz2 rfl (by decide) _ j vs rfl ?own ⟨wr.heap.size, 0, none⟩ 1 1 [_] rfl rfl (by exact fun j u hj => (cell_new wr 20 _ j).trans hj) ?c2 ?c3 ?c4 ?c5 ?_) | go_values | go_skip | go_guarded | go_step | go_upon))
  case own => exact HO1.out.alloc _
  case c2 => intro u hu; simp at hu; subst hu; rfl
  case c3 => unfold maxLen; omega
  case c4 => omega
  case c5 => have := BW.size; show _ ≤ (wr.alloc _).heap.size; simp; omega
  intro v' w2 hown hgrow _
  have hV2 := areV_snoc HO1.out HX.out HV1.out HU.out hgrow
  have hB2 := (BW.alloc BW.size (.cells #[.iface 27 (.slice none 0 0)] 20)).grown hgrow (by have := BW.size; show _ ≤ (wr.alloc _).heap.size; simp; omega) (fun g hg => (HO1.out.lt g hg).1)
  have HO2 := Lib.hid hown
  have HV2 := Lib.hid hV2
  have HB2 := Lib.hid hB2
  clear hown hgrow hV2 hB2
  (repeat (first | go_values | go_skip | go_guarded | go_step | go_upon))
  refine HN.out _ w2 _ (c - 1) v' _ ⟨rfl, rfl, rfl, rfl, rfl, rfl⟩ (by omega) (by omega) ?rd HB2.out HO2.out HV2.out
  case rd =>
    refine ⟨HM.out, ?_⟩
    rcases Nat.eq_zero_or_pos m with h | h
    · exact .inl (List.eq_nil_of_length_eq_zero (HM.out.trans h))
    · refine .inr ⟨b, o + (1), by rw [if_neg (by omega)], hlt, fun i x hx => ?_⟩
      refine (HB2.out.cell (p := ⟨b, o + (1) + i, none⟩) hlt).trans ((hB.cell (p := ⟨b, o + (1) + i, none⟩) hlt).symm.trans ?_)
      exact HRS.out i x hx

set_option maxRecDepth 100000 in
set_option maxHeartbeats 4000000 in
theorem round23_b1 (xs : List UInt8) (hxl : xs.length = 1) : Round23 (22 :: xs) (.byt xs) := by
  obtain ⟨i0, hi, hz0, hz1, hz2⟩ := info_parts info20
  obtain ⟨ib, hib, hb0, hb1, hb2⟩ := info_parts info5
  intro K Q0 w wr a c j rest v vs ys s4 u hlc hc hl hk hr hB hO hx hV hnext
  obtain ⟨b, o, rfl, hlt, hcell⟩ : ∃ b o, a = some ⟨b, o, none⟩ ∧ b < w.heap.size ∧ ∀ (i : Nat) (x : UInt8), ((22 :: xs) ++ rest)[i]? = some x → wr.cell? ⟨b, o + i, none⟩ = some (.int .u8 (x.toNat : Int)) := by
    rcases hr.2 with h | h
    · cases h
    · exact h
  have hc0 : wr.cell? ⟨b, o, none⟩ = some (.int .u8 22) := hcell 0 22 rfl
  have hlen : ((22 :: xs) ++ rest).length = rest.length + (2) := by simp only [List.length_append, List.length_cons]; omega
  have hch : (22 :: xs).length = 2 := by simp only [List.length_cons]; omega
  have hxs : ∀ (i : Nat) (x : UInt8), xs[i]? = some x → wr.cell? ⟨b, o + 1 + i, none⟩ = some (.int .u8 (x.toNat : Int)) := fun i x hi => by
    have hil : i < xs.length := (List.getElem?_eq_some_iff.1 hi).1
    have := hcell (i + 1) x (by rw [List.cons_append, List.getElem?_cons_succ, List.getElem?_append_left hil]; exact hi)
    rwa [show o + (i + 1) = o + 1 + i by omega] at this
  have hrs : ∀ (i : Nat) (x : UInt8), rest[i]? = some x → wr.cell? ⟨b, o + (2) + i, none⟩ = some (.int .u8 (x.toNat : Int)) := fun i x hi => by
    have := hcell (i + (2)) x (by rw [List.getElem?_append_right (by omega), hch, Nat.add_sub_cancel]; exact hi)
    rwa [show o + (i + (2)) = o + (2) + i by omega] at this
  rw [hlen] at hlc hl
  rw [hlen]
  have HXS := Lib.hid hxs
  have HRS := Lib.hid hrs
  have HN := Lib.hid hnext
  have HO := Lib.hid hO
  have HV := Lib.hid hV
  have HX := Lib.hid hx
  have HXL := Lib.hid hxl
  generalize hm : rest.length = m at *
  have HM := Lib.hid hm
  clear hr hcell hnext hlen hO hV hx hm hxs hrs hxl hch
  conv => arg 2; whnf
  unfold frm23
  (repeat (first | (at_builtin; refine wpList_append_own _ rfl (.const (.slice none 0 0)) (.tmp 197) 27 rfl wr.heap.size 5 ib _ 1 1 Tryd.underlying27 hib hb0 hb1 hb2 rfl (by decide) _ 0 [] rfl ?own1 ⟨b, o + 1, none⟩ 1 _ (u8s xs) rfl ?d0 ?d1 ?d2 ?d3 ?d4 ?d5 ?_) | go_values | go_skip | go_guarded | go_step | go_upon))
  case own1 => exact World.ownsRow_nil _ _ _ _
  case d0 => simp [HXL.out]
  case d1 => exact rdB.cells ⟨HXL.out, .inr ⟨b, o + 1, rfl, Nat.lt_of_lt_of_le hlt hB.size, HXS.out⟩⟩ (Below.refl _ _)
  case d2 => exact u8s_one
  case d3 => unfold maxLen; omega
  case d4 => omega
  case d5 => exact Nat.le_refl _
  intro v1 w1 hown1 hgrow1 _
  rw [Nat.zero_add, List.nil_append] at hown1
  obtain ⟨va, vc, rfl, q1, q2, q3⟩ := owns_rdB HXL.out hown1
  have B1 : Below wr.heap.size wr w1 := (Below.refl _ _).grown hgrow1 (Nat.le_refl _) (fun g h => by cases h)
  have HO1 := Lib.hid (ownsRow_below HO.out B1 (Nat.le_refl _))
  have HV1 := Lib.hid (HV.out.below B1 (Nat.le_refl _) (Nat.le_refl _) B1.size)
  have HU := Lib.hid (show avIs w1.heap.size w1 (.byt xs) (.iface 27 (.slice va 1 vc)) from ⟨va, 1, vc, rfl, q1, q2, q3⟩)
  have BW := hB.trans (B1.mono hB.size)
  clear hown1 hgrow1 q1 q2 q3
  (repeat (first | (at_builtin; refine wpList_append_own _ rfl (.tmp 193) (.tmp 200) 54 rfl w.heap.size 20 i0 _ 1 16 Tryd.underlying54 hi hz0 hz1 hz2 rfl (by decide) _ j vs rfl ?own ⟨w1.heap.size, 0, none⟩ 1 1 [_] rfl rfl (by exact fun j u hj => (cell_new w1 20 _ j).trans hj) ?c2 ?c3 ?c4 ?c5 ?_) | go_values | go_skip | go_guarded | go_step | go_upon))
  case own => exact HO1.out.alloc _
  case c2 => intro u hu; simp at hu; subst hu; rfl
  case c3 => unfold maxLen; omega
  case c4 => omega
  case c5 => have := BW.size; show _ ≤ (w1.alloc _).heap.size; simp; omega
  intro v' w2 hown hgrow _
  have hV2 := areV_snoc HO1.out HX.out HV1.out HU.out hgrow
  have hB2 := (BW.alloc BW.size (.cells #[.iface 27 (.slice va 1 vc)] 20)).grown hgrow (by have := BW.size; show _ ≤ (w1.alloc _).heap.size; simp; omega) (fun g hg => (HO1.out.lt g hg).1)
  have HO2 := Lib.hid hown
  have HV2 := Lib.hid hV2
  have HB2 := Lib.hid hB2
  clear hown hgrow hV2 hB2
  (repeat (first | go_values | go_skip | go_guarded | go_step | go_upon))
  refine HN.out _ w2 _ (c - 2) v' _ ⟨rfl, rfl, rfl, rfl, rfl, rfl⟩ (by omega) (by omega) ?rd HB2.out HO2.out HV2.out
  case rd =>
    refine ⟨HM.out, ?_⟩
    rcases Nat.eq_zero_or_pos m with h | h
    · exact .inl (List.eq_nil_of_length_eq_zero (HM.out.trans h))
    · refine .inr ⟨b, o + (2), by rw [if_neg (by omega)], hlt, fun i x hx => ?_⟩
      refine (HB2.out.cell (p := ⟨b, o + (2) + i, none⟩) hlt).trans ((hB.cell (p := ⟨b, o + (2) + i, none⟩) hlt).symm.trans ?_)
      exact HRS.out i x hx

set_option maxRecDepth 100000 in
set_option maxHeartbeats 4000000 in
theorem round23_b2 (xs : List UInt8) (hxl : xs.length = 2) : Round23 (23 :: xs) (.byt xs) := by
  obtain ⟨i0, hi, hz0, hz1, hz2⟩ := info_parts info20
  obtain ⟨ib, hib, hb0, hb1, hb2⟩ := info_parts info5
  intro K Q0 w wr a c j rest v vs ys s4 u hlc hc hl hk hr hB hO hx hV hnext
  obtain ⟨b, o, rfl, hlt, hcell⟩ : ∃ b o, a = some ⟨b, o, none⟩ ∧ b < w.heap.size ∧ ∀ (i : Nat) (x : UInt8), ((23 :: xs) ++ rest)[i]? = some x → wr.cell? ⟨b, o + i, none⟩ = some (.int .u8 (x.toNat : Int)) := by
    rcases hr.2 with h | h
    · cases h
    · exact h
  have hc0 : wr.cell? ⟨b, o, none⟩ = some (.int .u8 23) := hcell 0 23 rfl
  have hlen : ((23 :: xs) ++ rest).length = rest.length + (3) := by simp only [List.length_append, List.length_cons]; omega
  have hch : (23 :: xs).length = 3 := by simp only [List.length_cons]; omega
  have hxs : ∀ (i : Nat) (x : UInt8), xs[i]? = some x → wr.cell? ⟨b, o + 1 + i, none⟩ = some (.int .u8 (x.toNat : Int)) := fun i x hi => by
    have hil : i < xs.length := (List.getElem?_eq_some_iff.1 hi).1
    have := hcell (i + 1) x (by rw [List.cons_append, List.getElem?_cons_succ, List.getElem?_append_left hil]; exact hi)
    rwa [show o + (i + 1) = o + 1 + i by omega] at this
  have hrs : ∀ (i : Nat) (x : UInt8), rest[i]? = some x → wr.cell? ⟨b, o + (3) + i, none⟩ = some (.int .u8 (x.toNat : Int)) := fun i x hi => by
    have := hcell (i + (3)) x (by rw [List.getElem?_append_right (by omega), hch, Nat.add_sub_cancel]; exact hi)
    rwa [show o + (i + (3)) = o + (3) + i by omega] at this
  rw [hlen] at hlc hl
  rw [hlen]
  have HXS := Lib.hid hxs
  have HRS := Lib.hid hrs
  have HN := Lib.hid hnext
  have HO := Lib.hid hO
  have HV := Lib.hid hV
  have HX := Lib.hid hx
  have HXL := Lib.hid hxl
  generalize hm : rest.length = m at *
  have HM := Lib.hid hm
  clear hr hcell hnext hlen hO hV hx hm hxs hrs hxl hch
  conv => arg 2; whnf
  unfold frm23
  (repeat (first | (at_builtin; refine wpList_append_own _ rfl (.const (.slice none 0 0)) (.tmp 197) 27 rfl wr.heap.size 5 ib _ 1 1 Tryd.underlying27 hib hb0 hb1 hb2 rfl (by decide) _ 0 [] rfl ?own1 ⟨b, o + 1, none⟩ 2 _ (u8s xs) rfl ?d0 ?d1 ?d2 ?d3 ?d4 ?d5 ?_) | go_values | go_skip | go_guarded | go_step | go_upon))
  case own1 => exact World.ownsRow_nil _ _ _ _
  case d0 => simp [HXL.out]
  case d1 => exact rdB.cells ⟨HXL.out, .inr ⟨b, o + 1, rfl, Nat.lt_of_lt_of_le hlt hB.size, HXS.out⟩⟩ (Below.refl _ _)
  case d2 => exact u8s_one
  case d3 => unfold maxLen; omega
  case d4 => omega
  case d5 => exact Nat.le_refl _
  intro v1 w1 hown1 hgrow1 _
  rw [Nat.zero_add, List.nil_append] at hown1
  obtain ⟨va, vc, rfl, q1, q2, q3⟩ := owns_rdB HXL.out hown1
  have B1 : Below wr.heap.size wr w1 := (Below.refl _ _).grown hgrow1 (Nat.le_refl _) (fun g h => by cases h)
  have HO1 := Lib.hid (ownsRow_below HO.out B1 (Nat.le_refl _))
  have HV1 := Lib.hid (HV.out.below B1 (Nat.le_refl _) (Nat.le_refl _) B1.size)
  have HU := Lib.hid (show avIs w1.heap.size w1 (.byt xs) (.iface 27 (.slice va 2 vc)) from ⟨va, 2, vc, rfl, q1, q2, q3⟩)
  have BW := hB.trans (B1.mono hB.size)
  clear hown1 hgrow1 q1 q2 q3
  (repeat (first | (at_builtin; refine wpList_append_own _ rfl (.tmp 193) (.tmp 200) 54 rfl w.heap.size 20 i0 _ 1 16 Tryd.underlying54 hi hz0 hz1 hz2 rfl (by decide) _ j vs rfl ?own ⟨w1.heap.size, 0, none⟩ 1 1 [_] rfl rfl (by exact fun j u hj => (cell_new w1 20 _ j).trans hj) ?c2 ?c3 ?c4 ?c5 ?_) | go_values | go_skip | go_guarded | go_step | go_upon))
  case own => exact HO1.out.alloc _
  case c2 => intro u hu; simp at hu; subst hu; rfl
  case c3 => unfold maxLen; omega
  case c4 => omega
  case c5 => have := BW.size; show _ ≤ (w1.alloc _).heap.size; simp; omega
  intro v' w2 hown hgrow _
  have hV2 := areV_snoc HO1.out HX.out HV1.out HU.out hgrow
  have hB2 := (BW.alloc BW.size (.cells #[.iface 27 (.slice va 2 vc)] 20)).grown hgrow (by have := BW.size; show _ ≤ (w1.alloc _).heap.size; simp; omega) (fun g hg => (HO1.out.lt g hg).1)
  have HO2 := Lib.hid hown
  have HV2 := Lib.hid hV2
  have HB2 := Lib.hid hB2
  clear hown hgrow hV2 hB2
  (repeat (first | go_values | go_skip | go_guarded | go_step | go_upon))
  refine HN.out _ w2 _ (c - 3) v' _ ⟨rfl, rfl, rfl, rfl, rfl, rfl⟩ (by omega) (by omega) ?rd HB2.out HO2.out HV2.out
  case rd =>
    refine ⟨HM.out, ?_⟩
    rcases Nat.eq_zero_or_pos m with h | h
    · exact .inl (List.eq_nil_of_length_eq_zero (HM.out.trans h))
    · refine .inr ⟨b, o + (3), by rw [if_neg (by omega)], hlt, fun i x hx => ?_⟩
      refine (HB2.out.cell (p := ⟨b, o + (3) + i, none⟩) hlt).trans ((hB.cell (p := ⟨b, o + (3) + i, none⟩) hlt).symm.trans ?_)
      exact HRS.out i x hx

set_option maxRecDepth 100000 in
set_option maxHeartbeats 4000000 in
theorem round23_b3 (xs : List UInt8) (hxl : xs.length = 3) : Round23 (24 :: xs) (.byt xs) := by
  obtain ⟨i0, hi, hz0, hz1, hz2⟩ := info_parts info20
  obtain ⟨ib, hib, hb0, hb1, hb2⟩ := info_parts info5
  intro K Q0 w wr a c j rest v vs ys s4 u hlc hc hl hk hr hB hO hx hV hnext
  obtain ⟨b, o, rfl, hlt, hcell⟩ : ∃ b o, a = some ⟨b, o, none⟩ ∧ b < w.heap.size ∧ ∀ (i : Nat) (x : UInt8), ((24 :: xs) ++ rest)[i]? = some x → wr.cell? ⟨b, o + i, none⟩ = some (.int .u8 (x.toNat : Int)) := by
    rcases hr.2 with h | h
    · cases h
    · exact h
  have hc0 : wr.cell? ⟨b, o, none⟩ = some (.int .u8 24) := hcell 0 24 rfl
  have hlen : ((24 :: xs) ++ rest).length = rest.length + (4) := by simp only [List.length_append, List.length_cons]; omega
  have hch : (24 :: xs).length = 4 := by simp only [List.length_cons]; omega
  have hxs : ∀ (i : Nat) (x : UInt8), xs[i]? = some x → wr.cell? ⟨b, o + 1 + i, none⟩ = some (.int .u8 (x.toNat : Int)) := fun i x hi => by
    have hil : i < xs.length := (List.getElem?_eq_some_iff.1 hi).1
    have := hcell (i + 1) x (by rw [List.cons_append, List.getElem?_cons_succ, List.getElem?_append_left hil]; exact hi)
    rwa [show o + (i + 1) = o + 1 + i by omega] at this
  have hrs : ∀ (i : Nat) (x : UInt8), rest[i]? = some x → wr.cell? ⟨b, o + (4) + i, none⟩ = some (.int .u8 (x.toNat : Int)) := fun i x hi => by
    have := hcell (i + (4)) x (by rw [List.getElem?_append_right (by omega), hch, Nat.add_sub_cancel]; exact hi)
    rwa [show o + (i + (4)) = o + (4) + i by omega] at this
  rw [hlen] at hlc hl
  rw [hlen]
  have HXS := Lib.hid hxs
  have HRS := Lib.hid hrs
  have HN := Lib.hid hnext
  have HO := Lib.hid hO
  have HV := Lib.hid hV
  have HX := Lib.hid hx
  have HXL := Lib.hid hxl
  generalize hm : rest.length = m at *
  have HM := Lib.hid hm
  clear hr hcell hnext hlen hO hV hx hm hxs hrs hxl hch
  conv => arg 2; whnf
  unfold frm23
  (repeat (first | (at_builtin; refine wpList_append_own _ rfl (.const (.slice none 0 0)) (.tmp 197) 27 rfl wr.heap.size 5 ib _ 1 1 Tryd.underlying27 hib hb0 hb1 hb2 rfl (by decide) _ 0 [] rfl ?own1 ⟨b, o + 1, none⟩ 3 _ (u8s xs) rfl ?d0 ?d1 ?d2 ?d3 ?d4 ?d5 ?_) | go_values | go_skip | go_guarded | go_step | go_upon))
  case own1 => exact World.ownsRow_nil _ _ _ _
  case d0 => simp [HXL.out]
  case d1 => exact rdB.cells ⟨HXL.out, .inr ⟨b, o + 1, rfl, Nat.lt_of_lt_of_le hlt hB.size, HXS.out⟩⟩ (Below.refl _ _)
  case d2 => exact u8s_one
  case d3 => unfold maxLen; omega
  case d4 => omega
  case d5 => exact Nat.le_refl _
  intro v1 w1 hown1 hgrow1 _
  rw [Nat.zero_add, List.nil_append] at hown1
  obtain ⟨va, vc, rfl, q1, q2, q3⟩ := owns_rdB HXL.out hown1
  have B1 : Below wr.heap.size wr w1 := (Below.refl _ _).grown hgrow1 (Nat.le_refl _) (fun g h => by cases h)
  have HO1 := Lib.hid (ownsRow_below HO.out B1 (Nat.le_refl _))
  have HV1 := Lib.hid (HV.out.below B1 (Nat.le_refl _) (Nat.le_refl _) B1.size)
  have HU := Lib.hid (show avIs w1.heap.size w1 (.byt xs) (.iface 27 (.slice va 3 vc)) from ⟨va, 3, vc, rfl, q1, q2, q3⟩)
  have BW := hB.trans (B1.mono hB.size)
  clear hown1 hgrow1 q1 q2 q3
  (repeat (first | (at_builtin; refine wpList_append_own _ rfl (.tmp 193) (.tmp 200) 54 rfl w.heap.size 20 i0 _ 1 16 Tryd.underlying54 hi hz0 hz1 hz2 rfl (by decide) _ j vs rfl ?own ⟨w1.heap.size, 0, none⟩ 1 1 [_] rfl rfl (by exact fun j u hj => (cell_new w1 20 _ j).trans hj) ?c2 ?c3 ?c4 ?c5 ?_) | go_values | go_skip | go_guarded | go_step | go_upon))
  case own => exact HO1.out.alloc _
  case c2 => intro u hu; simp at hu; subst hu; rfl
  case c3 => unfold maxLen; omega
  case c4 => omega
  case c5 => have := BW.size; show _ ≤ (w1.alloc _).heap.size; simp; omega
  intro v' w2 hown hgrow _
  have hV2 := areV_snoc HO1.out HX.out HV1.out HU.out hgrow
  have hB2 := (BW.alloc BW.size (.cells #[.iface 27 (.slice va 3 vc)] 20)).grown hgrow (by have := BW.size; show _ ≤ (w1.alloc _).heap.size; simp; omega) (fun g hg => (HO1.out.lt g hg).1)
  have HO2 := Lib.hid hown
  have HV2 := Lib.hid hV2
  have HB2 := Lib.hid hB2
  clear hown hgrow hV2 hB2
  (repeat (first | go_values | go_skip | go_guarded | go_step | go_upon))
  refine HN.out _ w2 _ (c - 4) v' _ ⟨rfl, rfl, rfl, rfl, rfl, rfl⟩ (by omega) (by omega) ?rd HB2.out HO2.out HV2.out
  case rd =>
    refine ⟨HM.out, ?_⟩
    rcases Nat.eq_zero_or_pos m with h | h
    · exact .inl (List.eq_nil_of_length_eq_zero (HM.out.trans h))
    · refine .inr ⟨b, o + (4), by rw [if_neg (by omega)], hlt, fun i x hx => ?_⟩
      refine (HB2.out.cell (p := ⟨b, o + (4) + i, none⟩) hlt).trans ((hB.cell (p := ⟨b, o + (4) + i, none⟩) hlt).symm.trans ?_)
      exact HRS.out i x hx

set_option maxRecDepth 100000 in
set_option maxHeartbeats 4000000 in
theorem round23_b4 (xs : List UInt8) (hxl : xs.length = 4) : Round23 (25 :: xs) (.byt xs) := by
  obtain ⟨i0, hi, hz0, hz1, hz2⟩ := info_parts info20
  obtain ⟨ib, hib, hb0, hb1, hb2⟩ := info_parts info5
  intro K Q0 w wr a c j rest v vs ys s4 u hlc hc hl hk hr hB hO hx hV hnext
  obtain ⟨b, o, rfl, hlt, hcell⟩ : ∃ b o, a = some ⟨b, o, none⟩ ∧ b < w.heap.size ∧ ∀ (i : Nat) (x : UInt8), ((25 :: xs) ++ rest)[i]? = some x → wr.cell? ⟨b, o + i, none⟩ = some (.int .u8 (x.toNat : Int)) := by
    rcases hr.2 with h | h
    · cases h
    · exact h
  have hc0 : wr.cell? ⟨b, o, none⟩ = some (.int .u8 25) := hcell 0 25 rfl
  have hlen : ((25 :: xs) ++ rest).length = rest.length + (5) := by simp only [List.length_append, List.length_cons]; omega
  have hch : (25 :: xs).length = 5 := by simp only [List.length_cons]; omega
  have hxs : ∀ (i : Nat) (x : UInt8), xs[i]? = some x → wr.cell? ⟨b, o + 1 + i, none⟩ = some (.int .u8 (x.toNat : Int)) := fun i x hi => by
    have hil : i < xs.length := (List.getElem?_eq_some_iff.1 hi).1
    have := hcell (i + 1) x (by rw [List.cons_append, List.getElem?_cons_succ, List.getElem?_append_left hil]; exact hi)
    rwa [show o + (i + 1) = o + 1 + i by omega] at this
  have hrs : ∀ (i : Nat) (x : UInt8), rest[i]? = some x → wr.cell? ⟨b, o + (5) + i, none⟩ = some (.int .u8 (x.toNat : Int)) := fun i x hi => by
    have := hcell (i + (5)) x (by rw [List.getElem?_append_right (by omega), hch, Nat.add_sub_cancel]; exact hi)
    rwa [show o + (i + (5)) = o + (5) + i by omega] at this
  rw [hlen] at hlc hl
  rw [hlen]
  have HXS := Lib.hid hxs
  have HRS := Lib.hid hrs
  have HN := Lib.hid hnext
  have HO := Lib.hid hO
  have HV := Lib.hid hV
  have HX := Lib.hid hx
  have HXL := Lib.hid hxl
  generalize hm : rest.length = m at *
  have HM := Lib.hid hm
  clear hr hcell hnext hlen hO hV hx hm hxs hrs hxl hch
  conv => arg 2; whnf
  unfold frm23
  (repeat (first | (at_builtin; refine wpList_append_own _ rfl (.const (.slice none 0 0)) (.tmp 197) 27 rfl wr.heap.size 5 ib _ 1 1 Tryd.underlying27 hib hb0 hb1 hb2 rfl (by decide) _ 0 [] rfl ?own1 ⟨b, o + 1, none⟩ 4 _ (u8s xs) rfl ?d0 ?d1 ?d2 ?d3 ?d4 ?d5 ?_) | go_values | go_skip | go_guarded | go_step | go_upon))
  case own1 => exact World.ownsRow_nil _ _ _ _
  case d0 => simp [HXL.out]
  case d1 => exact rdB.cells ⟨HXL.out, .inr ⟨b, o + 1, rfl, Nat.lt_of_lt_of_le hlt hB.size, HXS.out⟩⟩ (Below.refl _ _)
  case d2 => exact u8s_one
  case d3 => unfold maxLen; omega
  case d4 => omega
  case d5 => exact Nat.le_refl _
  intro v1 w1 hown1 hgrow1 _
  rw [Nat.zero_add, List.nil_append] at hown1
  obtain ⟨va, vc, rfl, q1, q2, q3⟩ := owns_rdB HXL.out hown1
  have B1 : Below wr.heap.size wr w1 := (Below.refl _ _).grown hgrow1 (Nat.le_refl _) (fun g h => by cases h)
  have HO1 := Lib.hid (ownsRow_below HO.out B1 (Nat.le_refl _))
  have HV1 := Lib.hid (HV.out.below B1 (Nat.le_refl _) (Nat.le_refl _) B1.size)
  have HU := Lib.hid (show avIs w1.heap.size w1 (.byt xs) (.iface 27 (.slice va 4 vc)) from ⟨va, 4, vc, rfl, q1, q2, q3⟩)
  have BW := hB.trans (B1.mono hB.size)
  clear hown1 hgrow1 q1 q2 q3
  (repeat (first | (at_builtin; refine wpList_append_own _ rfl (.tmp 193) (.tmp 200) 54 rfl w.heap.size 20 i0 _ 1 16 Tryd.underlying54 hi hz0 hz1 hz2 rfl (by decide) _ j vs rfl ?own ⟨w1.heap.size, 0, none⟩ 1 1 [_] rfl rfl (by exact fun j u hj => (cell_new w1 20 _ j).trans hj) ?c2 ?c3 ?c4 ?c5 ?_) | go_values | go_skip | go_guarded | go_step | go_upon))
  case own => exact HO1.out.alloc _
  case c2 => intro u hu; simp at hu; subst hu; rfl
  case c3 => unfold maxLen; omega
  case c4 => omega
  case c5 => have := BW.size; show _ ≤ (w1.alloc _).heap.size; simp; omega
  intro v' w2 hown hgrow _
  have hV2 := areV_snoc HO1.out HX.out HV1.out HU.out hgrow
  have hB2 := (BW.alloc BW.size (.cells #[.iface 27 (.slice va 4 vc)] 20)).grown hgrow (by have := BW.size; show _ ≤ (w1.alloc _).heap.size; simp; omega) (fun g hg => (HO1.out.lt g hg).1)
  have HO2 := Lib.hid hown
  have HV2 := Lib.hid hV2
  have HB2 := Lib.hid hB2
  clear hown hgrow hV2 hB2
  (repeat (first | go_values | go_skip | go_guarded | go_step | go_upon))
  refine HN.out _ w2 _ (c - 5) v' _ ⟨rfl, rfl, rfl, rfl, rfl, rfl⟩ (by omega) (by omega) ?rd HB2.out HO2.out HV2.out
  case rd =>
    refine ⟨HM.out, ?_⟩
    rcases Nat.eq_zero_or_pos m with h | h
    · exact .inl (List.eq_nil_of_length_eq_zero (HM.out.trans h))
    · refine .inr ⟨b, o + (5), by rw [if_neg (by omega)], hlt, fun i x hx => ?_⟩
      refine (HB2.out.cell (p := ⟨b, o + (5) + i, none⟩) hlt).trans ((hB.cell (p := ⟨b, o + (5) + i, none⟩) hlt).symm.trans ?_)
      exact HRS.out i x hx

set_option maxRecDepth 100000 in
set_option maxHeartbeats 4000000 in
theorem round23_b5 (xs : List UInt8) (hxl : xs.length = 5) : Round23 (26 :: xs) (.byt xs) := by
  obtain ⟨i0, hi, hz0, hz1, hz2⟩ := info_parts info20
  obtain ⟨ib, hib, hb0, hb1, hb2⟩ := info_parts info5
  intro K Q0 w wr a c j rest v vs ys s4 u hlc hc hl hk hr hB hO hx hV hnext
  obtain ⟨b, o, rfl, hlt, hcell⟩ : ∃ b o, a = some ⟨b, o, none⟩ ∧ b < w.heap.size ∧ ∀ (i : Nat) (x : UInt8), ((26 :: xs) ++ rest)[i]? = some x → wr.cell? ⟨b, o + i, none⟩ = some (.int .u8 (x.toNat : Int)) := by
    rcases hr.2 with h | h
    · cases h
    · exact h
  have hc0 : wr.cell? ⟨b, o, none⟩ = some (.int .u8 26) := hcell 0 26 rfl
  have hlen : ((26 :: xs) ++ rest).length = rest.length + (6) := by simp only [List.length_append, List.length_cons]; omega
  have hch : (26 :: xs).length = 6 := by simp only [List.length_cons]; omega
  have hxs : ∀ (i : Nat) (x : UInt8), xs[i]? = some x → wr.cell? ⟨b, o + 1 + i, none⟩ = some (.int .u8 (x.toNat : Int)) := fun i x hi => by
    have hil : i < xs.length := (List.getElem?_eq_some_iff.1 hi).1
    have := hcell (i + 1) x (by rw [List.cons_append, List.getElem?_cons_succ, List.getElem?_append_left hil]; exact hi)
    rwa [show o + (i + 1) = o + 1 + i by omega] at this
  have hrs : ∀ (i : Nat) (x : UInt8), rest[i]? = some x → wr.cell? ⟨b, o + (6) + i, none⟩ = some (.int .u8 (x.toNat : Int)) := fun i x hi => by
    have := hcell (i + (6)) x (by rw [List.getElem?_append_right (by omega), hch, Nat.add_sub_cancel]; exact hi)
    rwa [show o + (i + (6)) = o + (6) + i by omega] at this
  rw [hlen] at hlc hl
  rw [hlen]
  have HXS := Lib.hid hxs
  have HRS := Lib.hid hrs
  have HN := Lib.hid hnext
  have HO := Lib.hid hO
  have HV := Lib.hid hV
  have HX := Lib.hid hx
  have HXL := Lib.hid hxl
  generalize hm : rest.length = m at *
  have HM := Lib.hid hm
  clear hr hcell hnext hlen hO hV hx hm hxs hrs hxl hch
  conv => arg 2; whnf
  unfold frm23
  (repeat (first | (at_builtin; refine wpList_append_own _ rfl (.const (.slice none 0 0)) (.tmp 197) 27 rfl wr.heap.size 5 ib _ 1 1 Tryd.underlying27 hib hb0 hb1 hb2 rfl (by decide) _ 0 [] rfl ?own1 ⟨b, o + 1, none⟩ 5 _ (u8s xs) rfl ?d0 ?d1 ?d2 ?d3 ?d4 ?d5 ?_) | go_values | go_skip | go_guarded | go_step | go_upon))
  case own1 => exact World.ownsRow_nil _ _ _ _
  case d0 => simp [HXL.out]
  case d1 => exact rdB.cells ⟨HXL.out, .inr ⟨b, o + 1, rfl, Nat.lt_of_lt_of_le hlt hB.size, HXS.out⟩⟩ (Below.refl _ _)
  case d2 => exact u8s_one
  case d3 => unfold maxLen; omega
  case d4 => omega
  case d5 => exact Nat.le_refl _
  intro v1 w1 hown1 hgrow1 _
  rw [Nat.zero_add, List.nil_append] at hown1
  obtain ⟨va, vc, rfl, q1, q2, q3⟩ := owns_rdB HXL.out hown1
  have B1 : Below wr.heap.size wr w1 := (Below.refl _ _).grown hgrow1 (Nat.le_refl _) (fun g h => by cases h)
  have HO1 := Lib.hid (ownsRow_below HO.out B1 (Nat.le_refl _))
  have HV1 := Lib.hid (HV.out.below B1 (Nat.le_refl _) (Nat.le_refl _) B1.size)
  have HU := Lib.hid (show avIs w1.heap.size w1 (.byt xs) (.iface 27 (.slice va 5 vc)) from ⟨va, 5, vc, rfl, q1, q2, q3⟩)
  have BW := hB.trans (B1.mono hB.size)
  clear hown1 hgrow1 q1 q2 q3
  (repeat (first | (at_builtin; refine wpList_append_own _ rfl (.tmp 193) (.tmp 200) 54 rfl w.heap.size 20 i0 _ 1 16 Tryd.underlying54 hi hz0 hz1 hz2 rfl (by decide) _ j vs rfl ?own ⟨w1.heap.size, 0, none⟩ 1 1 [_] rfl rfl (by exact fun j u hj => (cell_new w1 20 _ j).trans hj) ?c2 ?c3 ?c4 ?c5 ?_) | go_values | go_skip | go_guarded | go_step | go_upon))
  case own => exact HO1.out.alloc _
  case c2 => intro u hu; simp at hu; subst hu; rfl
  case c3 => unfold maxLen; omega
  case c4 => omega
  case c5 => have := BW.size; show _ ≤ (w1.alloc _).heap.size; simp; omega
  intro v' w2 hown hgrow _
  have hV2 := areV_snoc HO1.out HX.out HV1.out HU.out hgrow
  have hB2 := (BW.alloc BW.size (.cells #[.iface 27 (.slice va 5 vc)] 20)).grown hgrow (by have := BW.size; show _ ≤ (w1.alloc _).heap.size; simp; omega) (fun g hg => (HO1.out.lt g hg).1)
  have HO2 := Lib.hid hown
  have HV2 := Lib.hid hV2
  have HB2 := Lib.hid hB2
  clear hown hgrow hV2 hB2
  (repeat (first | go_values | go_skip | go_guarded | go_step | go_upon))
  refine HN.out _ w2 _ (c - 6) v' _ ⟨rfl, rfl, rfl, rfl, rfl, rfl⟩ (by omega) (by omega) ?rd HB2.out HO2.out HV2.out
  case rd =>
    refine ⟨HM.out, ?_⟩
    rcases Nat.eq_zero_or_pos m with h | h
    · exact .inl (List.eq_nil_of_length_eq_zero (HM.out.trans h))
    · refine .inr ⟨b, o + (6), by rw [if_neg (by omega)], hlt, fun i x hx => ?_⟩
      refine (HB2.out.cell (p := ⟨b, o + (6) + i, none⟩) hlt).trans ((hB.cell (p := ⟨b, o + (6) + i, none⟩) hlt).symm.trans ?_)
      exact HRS.out i x hx

set_option maxRecDepth 100000 in
set_option maxHeartbeats 4000000 in
theorem round23_b6 (xs : List UInt8) (hxl : xs.length = 6) : Round23 (27 :: xs) (.byt xs) := by
  obtain ⟨i0, hi, hz0, hz1, hz2⟩ := info_parts info20
  obtain ⟨ib, hib, hb0, hb1, hb2⟩ := info_parts info5
  intro K Q0 w wr a c j rest v vs ys s4 u hlc hc hl hk hr hB hO hx hV hnext
  obtain ⟨b, o, rfl, hlt, hcell⟩ : ∃ b o, a = some ⟨b, o, none⟩ ∧ b < w.heap.size ∧ ∀ (i : Nat) (x : UInt8), ((27 :: xs) ++ rest)[i]? = some x → wr.cell? ⟨b, o + i, none⟩ = some (.int .u8 (x.toNat : Int)) := by
    rcases hr.2 with h | h
    · cases h
    · exact h
  have hc0 : wr.cell? ⟨b, o, none⟩ = some (.int .u8 27) := hcell 0 27 rfl
  have hlen : ((27 :: xs) ++ rest).length = rest.length + (7) := by simp only [List.length_append, List.length_cons]; omega
  have hch : (27 :: xs).length = 7 := by simp only [List.length_cons]; omega
  have hxs : ∀ (i : Nat) (x : UInt8), xs[i]? = some x → wr.cell? ⟨b, o + 1 + i, none⟩ = some (.int .u8 (x.toNat : Int)) := fun i x hi => by
    have hil : i < xs.length := (List.getElem?_eq_some_iff.1 hi).1
    have := hcell (i + 1) x (by rw [List.cons_append, List.getElem?_cons_succ, List.getElem?_append_left hil]; exact hi)
    rwa [show o + (i + 1) = o + 1 + i by omega] at this
  have hrs : ∀ (i : Nat) (x : UInt8), rest[i]? = some x → wr.cell? ⟨b, o + (7) + i, none⟩ = some (.int .u8 (x.toNat : Int)) := fun i x hi => by
    have := hcell (i + (7)) x (by rw [List.getElem?_append_right (by omega), hch, Nat.add_sub_cancel]; exact hi)
    rwa [show o + (i + (7)) = o + (7) + i by omega] at this
  rw [hlen] at hlc hl
  rw [hlen]
  have HXS := Lib.hid hxs
  have HRS := Lib.hid hrs
  have HN := Lib.hid hnext
  have HO := Lib.hid hO
  have HV := Lib.hid hV
  have HX := Lib.hid hx
  have HXL := Lib.hid hxl
  generalize hm : rest.length = m at *
  have HM := Lib.hid hm
  clear hr hcell hnext hlen hO hV hx hm hxs hrs hxl hch
  conv => arg 2; whnf
  unfold frm23
  (repeat (first | (at_builtin; refine wpList_append_own _ rfl (.const (.slice none 0 0)) (.tmp 197) 27 rfl wr.heap.size 5 ib _ 1 1 Tryd.underlying27 hib hb0 hb1 hb2 rfl (by decide) _ 0 [] rfl ?own1 ⟨b, o + 1, none⟩ 6 _ (u8s xs) rfl ?d0 ?d1 ?d2 ?d3 ?d4 ?d5 ?_) | go_values | go_skip | go_guarded | go_step | go_upon))
  case own1 => exact World.ownsRow_nil _ _ _ _
  case d0 => simp [HXL.out]
  case d1 => exact rdB.cells ⟨HXL.out, .inr ⟨b, o + 1, rfl, Nat.lt_of_lt_of_le hlt hB.size, HXS.out⟩⟩ (Below.refl _ _)
  case d2 => exact u8s_one
  case d3 => unfold maxLen; omega
  case d4 => omega
  case d5 => exact Nat.le_refl _
  intro v1 w1 hown1 hgrow1 _
  rw [Nat.zero_add, List.nil_append] at hown1
  obtain ⟨va, vc, rfl, q1, q2, q3⟩ := owns_rdB HXL.out hown1
  have B1 : Below wr.heap.size wr w1 := (Below.refl _ _).grown hgrow1 (Nat.le_refl _) (fun g h => by cases h)
  have HO1 := Lib.hid (ownsRow_below HO.out B1 (Nat.le_refl _))
  have HV1 := Lib.hid (HV.out.below B1 (Nat.le_refl _) (Nat.le_refl _) B1.size)
  have HU := Lib.hid (show avIs w1.heap.size w1 (.byt xs) (.iface 27 (.slice va 6 vc)) from ⟨va, 6, vc, rfl, q1, q2, q3⟩)
  have BW := hB.trans (B1.mono hB.size)
  clear hown1 hgrow1 q1 q2 q3
  (repeat (first | (at_builtin; refine wpList_append_own _ rfl (.tmp 193) (.tmp 200) 54 rfl w.heap.size 20 i0 _ 1 16 Tryd.underlying54 hi hz0 hz1 hz2 rfl (by decide) _ j vs rfl ?own ⟨w1.heap.size, 0, none⟩ 1 1 [_] rfl rfl (by exact fun j u hj => (cell_new w1 20 _ j).trans hj) ?c2 ?c3 ?c4 ?c5 ?_) | go_values | go_skip | go_guarded | go_step | go_upon))
  case own => exact HO1.out.alloc _
  case c2 => intro u hu; simp at hu; subst hu; rfl
  case c3 => unfold maxLen; omega
  case c4 => omega
  case c5 => have := BW.size; show _ ≤ (w1.alloc _).heap.size; simp; omega
  intro v' w2 hown hgrow _
  have hV2 := areV_snoc HO1.out HX.out HV1.out HU.out hgrow
  have hB2 := (BW.alloc BW.size (.cells #[.iface 27 (.slice va 6 vc)] 20)).grown hgrow (by have := BW.size; show _ ≤ (w1.alloc _).heap.size; simp; omega) (fun g hg => (HO1.out.lt g hg).1)
  have HO2 := Lib.hid hown
  have HV2 := Lib.hid hV2
  have HB2 := Lib.hid hB2
  clear hown hgrow hV2 hB2
  (repeat (first | go_values | go_skip | go_guarded | go_step | go_upon))
  refine HN.out _ w2 _ (c - 7) v' _ ⟨rfl, rfl, rfl, rfl, rfl, rfl⟩ (by omega) (by omega) ?rd HB2.out HO2.out HV2.out
  case rd =>
    refine ⟨HM.out, ?_⟩
    rcases Nat.eq_zero_or_pos m with h | h
    · exact .inl (List.eq_nil_of_length_eq_zero (HM.out.trans h))
    · refine .inr ⟨b, o + (7), by rw [if_neg (by omega)], hlt, fun i x hx => ?_⟩
      refine (HB2.out.cell (p := ⟨b, o + (7) + i, none⟩) hlt).trans ((hB.cell (p := ⟨b, o + (7) + i, none⟩) hlt).symm.trans ?_)
      exact HRS.out i x hx

set_option maxRecDepth 100000 in
set_option maxHeartbeats 4000000 in
theorem round23_b7 (xs : List UInt8) (hxl : xs.length = 7) : Round23 (28 :: xs) (.byt xs) := by
  obtain ⟨i0, hi, hz0, hz1, hz2⟩ := info_parts info20
  obtain ⟨ib, hib, hb0, hb1, hb2⟩ := info_parts info5
  intro K Q0 w wr a c j rest v vs ys s4 u hlc hc hl hk hr hB hO hx hV hnext
  obtain ⟨b, o, rfl, hlt, hcell⟩ : ∃ b o, a = some ⟨b, o, none⟩ ∧ b < w.heap.size ∧ ∀ (i : Nat) (x : UInt8), ((28 :: xs) ++ rest)[i]? = some x → wr.cell? ⟨b, o + i, none⟩ = some (.int .u8 (x.toNat : Int)) := by
    rcases hr.2 with h | h
    · cases h
    · exact h
  have hc0 : wr.cell? ⟨b, o, none⟩ = some (.int .u8 28) := hcell 0 28 rfl
  have hlen : ((28 :: xs) ++ rest).length = rest.length + (8) := by simp only [List.length_append, List.length_cons]; omega
  have hch : (28 :: xs).length = 8 := by simp only [List.length_cons]; omega
  have hxs : ∀ (i : Nat) (x : UInt8), xs[i]? = some x → wr.cell? ⟨b, o + 1 + i, none⟩ = some (.int .u8 (x.toNat : Int)) := fun i x hi => by
    have hil : i < xs.length := (List.getElem?_eq_some_iff.1 hi).1
    have := hcell (i + 1) x (by rw [List.cons_append, List.getElem?_cons_succ, List.getElem?_append_left hil]; exact hi)
    rwa [show o + (i + 1) = o + 1 + i by omega] at this
  have hrs : ∀ (i : Nat) (x : UInt8), rest[i]? = some x → wr.cell? ⟨b, o + (8) + i, none⟩ = some (.int .u8 (x.toNat : Int)) := fun i x hi => by
    have := hcell (i + (8)) x (by rw [List.getElem?_append_right (by omega), hch, Nat.add_sub_cancel]; exact hi)
    rwa [show o + (i + (8)) = o + (8) + i by omega] at this
  rw [hlen] at hlc hl
  rw [hlen]
  have HXS := Lib.hid hxs
  have HRS := Lib.hid hrs
  have HN := Lib.hid hnext
  have HO := Lib.hid hO
  have HV := Lib.hid hV
  have HX := Lib.hid hx
  have HXL := Lib.hid hxl
  generalize hm : rest.length = m at *
  have HM := Lib.hid hm
  clear hr hcell hnext hlen hO hV hx hm hxs hrs hxl hch
  conv => arg 2; whnf
  unfold frm23
  (repeat (first | (at_builtin; refine wpList_append_own _ rfl (.const (.slice none 0 0)) (.tmp 197) 27 rfl wr.heap.size 5 ib _ 1 1 Tryd.underlying27 hib hb0 hb1 hb2 rfl (by decide) _ 0 [] rfl ?own1 ⟨b, o + 1, none⟩ 7 _ (u8s xs) rfl ?d0 ?d1 ?d2 ?d3 ?d4 ?d5 ?_) | go_values | go_skip | go_guarded | go_step | go_upon))
  case own1 => exact World.ownsRow_nil _ _ _ _
  case d0 => simp [HXL.out]
  case d1 => exact rdB.cells ⟨HXL.out, .inr ⟨b, o + 1, rfl, Nat.lt_of_lt_of_le hlt hB.size, HXS.out⟩⟩ (Below.refl _ _)
  case d2 => exact u8s_one
  case d3 => unfold maxLen; omega
  case d4 => omega
  case d5 => exact Nat.le_refl _
  intro v1 w1 hown1 hgrow1 _
  rw [Nat.zero_add, List.nil_append] at hown1
  obtain ⟨va, vc, rfl, q1, q2, q3⟩ := owns_rdB HXL.out hown1
  have B1 : Below wr.heap.size wr w1 := (Below.refl _ _).grown hgrow1 (Nat.le_refl _) (fun g h => by cases h)
  have HO1 := Lib.hid (ownsRow_below HO.out B1 (Nat.le_refl _))
  have HV1 := Lib.hid (HV.out.below B1 (Nat.le_refl _) (Nat.le_refl _) B1.size)
  have HU := Lib.hid (show avIs w1.heap.size w1 (.byt xs) (.iface 27 (.slice va 7 vc)) from ⟨va, 7, vc, rfl, q1, q2, q3⟩)
  have BW := hB.trans (B1.mono hB.size)
  clear hown1 hgrow1 q1 q2 q3
  (repeat (first | (at_builtin; refine wpList_append_own _ rfl (.tmp 193) (.tmp 200) 54 rfl w.heap.size 20 i0 _ 1 16 Tryd.underlying54 hi hz0 hz1 hz2 rfl (by decide) _ j vs rfl ?own ⟨w1.heap.size, 0, none⟩ 1 1 [_] rfl rfl (by exact fun j u hj => (cell_new w1 20 _ j).trans hj) ?c2 ?c3 ?c4 ?c5 ?_) | go_values | go_skip | go_guarded | go_step | go_upon))
  case own => exact HO1.out.alloc _
  case c2 => intro u hu; simp at hu; subst hu; rfl
  case c3 => unfold maxLen; omega
  case c4 => omega
  case c5 => have := BW.size; show _ ≤ (w1.alloc _).heap.size; simp; omega
  intro v' w2 hown hgrow _
  have hV2 := areV_snoc HO1.out HX.out HV1.out HU.out hgrow
  have hB2 := (BW.alloc BW.size (.cells #[.iface 27 (.slice va 7 vc)] 20)).grown hgrow (by have := BW.size; show _ ≤ (w1.alloc _).heap.size; simp; omega) (fun g hg => (HO1.out.lt g hg).1)
  have HO2 := Lib.hid hown
  have HV2 := Lib.hid hV2
  have HB2 := Lib.hid hB2
  clear hown hgrow hV2 hB2
  (repeat (first | go_values | go_skip | go_guarded | go_step | go_upon))
  refine HN.out _ w2 _ (c - 8) v' _ ⟨rfl, rfl, rfl, rfl, rfl, rfl⟩ (by omega) (by omega) ?rd HB2.out HO2.out HV2.out
  case rd =>
    refine ⟨HM.out, ?_⟩
    rcases Nat.eq_zero_or_pos m with h | h
    · exact .inl (List.eq_nil_of_length_eq_zero (HM.out.trans h))
    · refine .inr ⟨b, o + (8), by rw [if_neg (by omega)], hlt, fun i x hx => ?_⟩
      refine (HB2.out.cell (p := ⟨b, o + (8) + i, none⟩) hlt).trans ((hB.cell (p := ⟨b, o + (8) + i, none⟩) hlt).symm.trans ?_)
      exact HRS.out i x hx

set_option maxRecDepth 100000 in
set_option maxHeartbeats 4000000 in
theorem round23_b8 (xs : List UInt8) (hxl : xs.length = 8) : Round23 (29 :: xs) (.byt xs) := by
  obtain ⟨i0, hi, hz0, hz1, hz2⟩ := info_parts info20
  obtain ⟨ib, hib, hb0, hb1, hb2⟩ := info_parts info5
  intro K Q0 w wr a c j rest v vs ys s4 u hlc hc hl hk hr hB hO hx hV hnext
  obtain ⟨b, o, rfl, hlt, hcell⟩ : ∃ b o, a = some ⟨b, o, none⟩ ∧ b < w.heap.size ∧ ∀ (i : Nat) (x : UInt8), ((29 :: xs) ++ rest)[i]? = some x → wr.cell? ⟨b, o + i, none⟩ = some (.int .u8 (x.toNat : Int)) := by
    rcases hr.2 with h | h
    · cases h
    · exact h
  have hc0 : wr.cell? ⟨b, o, none⟩ = some (.int .u8 29) := hcell 0 29 rfl
  have hlen : ((29 :: xs) ++ rest).length = rest.length + (9) := by simp only [List.length_append, List.length_cons]; omega
  have hch : (29 :: xs).length = 9 := by simp only [List.length_cons]; omega
  have hxs : ∀ (i : Nat) (x : UInt8), xs[i]? = some x → wr.cell? ⟨b, o + 1 + i, none⟩ = some (.int .u8 (x.toNat : Int)) := fun i x hi => by
    have hil : i < xs.length := (List.getElem?_eq_some_iff.1 hi).1
    have := hcell (i + 1) x (by rw [List.cons_append, List.getElem?_cons_succ, List.getElem?_append_left hil]; exact hi)
    rwa [show o + (i + 1) = o + 1 + i by omega] at this
  have hrs : ∀ (i : Nat) (x : UInt8), rest[i]? = some x → wr.cell? ⟨b, o + (9) + i, none⟩ = some (.int .u8 (x.toNat : Int)) := fun i x hi => by
    have := hcell (i + (9)) x (by rw [List.getElem?_append_right (by omega), hch, Nat.add_sub_cancel]; exact hi)
    rwa [show o + (i + (9)) = o + (9) + i by omega] at this
  rw [hlen] at hlc hl
  rw [hlen]
  have HXS := Lib.hid hxs
  have HRS := Lib.hid hrs
  have HN := Lib.hid hnext
  have HO := Lib.hid hO
  have HV := Lib.hid hV
  have HX := Lib.hid hx
  have HXL := Lib.hid hxl
  generalize hm : rest.length = m at *
  have HM := Lib.hid hm
  clear hr hcell hnext hlen hO hV hx hm hxs hrs hxl hch
  conv => arg 2; whnf
  unfold frm23
  (repeat (first | (at_builtin; refine wpList_append_own _ rfl (.const (.slice none 0 0)) (.tmp 197) 27 rfl wr.heap.size 5 ib _ 1 1 Tryd.underlying27 hib hb0 hb1 hb2 rfl (by decide) _ 0 [] rfl ?own1 ⟨b, o + 1, none⟩ 8 _ (u8s xs) rfl ?d0 ?d1 ?d2 ?d3 ?d4 ?d5 ?_) | go_values | go_skip | go_guarded | go_step | go_upon))
  case own1 => exact World.ownsRow_nil _ _ _ _
  case d0 => simp [HXL.out]
  case d1 => exact rdB.cells ⟨HXL.out, .inr ⟨b, o + 1, rfl, Nat.lt_of_lt_of_le hlt hB.size, HXS.out⟩⟩ (Below.refl _ _)
  case d2 => exact u8s_one
  case d3 => unfold maxLen; omega
  case d4 => omega
  case d5 => exact Nat.le_refl _
  intro v1 w1 hown1 hgrow1 _
  rw [Nat.zero_add, List.nil_append] at hown1
  obtain ⟨va, vc, rfl, q1, q2, q3⟩ := owns_rdB HXL.out hown1
  have B1 : Below wr.heap.size wr w1 := (Below.refl _ _).grown hgrow1 (Nat.le_refl _) (fun g h => by cases h)
  have HO1 := Lib.hid (ownsRow_below HO.out B1 (Nat.le_refl _))
  have HV1 := Lib.hid (HV.out.below B1 (Nat.le_refl _) (Nat.le_refl _) B1.size)
  have HU := Lib.hid (show avIs w1.heap.size w1 (.byt xs) (.iface 27 (.slice va 8 vc)) from ⟨va, 8, vc, rfl, q1, q2, q3⟩)
  have BW := hB.trans (B1.mono hB.size)
  clear hown1 hgrow1 q1 q2 q3
  (repeat (first | (at_builtin; refine wpList_append_own _ rfl (.tmp 193) (.tmp 200) 54 rfl w.heap.size 20 i0 _ 1 16 Tryd.underlying54 hi hz0 hz1 hz2 rfl (by decide) _ j vs rfl ?own ⟨w1.heap.size, 0, none⟩ 1 1 [_] rfl rfl (by exact fun j u hj => (cell_new w1 20 _ j).trans hj) ?c2 ?c3 ?c4 ?c5 ?_) | go_values | go_skip | go_guarded | go_step | go_upon))
  case own => exact HO1.out.alloc _
  case c2 => intro u hu; simp at hu; subst hu; rfl
  case c3 => unfold maxLen; omega
  case c4 => omega
  case c5 => have := BW.size; show _ ≤ (w1.alloc _).heap.size; simp; omega
  intro v' w2 hown hgrow _
  have hV2 := areV_snoc HO1.out HX.out HV1.out HU.out hgrow
  have hB2 := (BW.alloc BW.size (.cells #[.iface 27 (.slice va 8 vc)] 20)).grown hgrow (by have := BW.size; show _ ≤ (w1.alloc _).heap.size; simp; omega) (fun g hg => (HO1.out.lt g hg).1)
  have HO2 := Lib.hid hown
  have HV2 := Lib.hid hV2
  have HB2 := Lib.hid hB2
  clear hown hgrow hV2 hB2
  (repeat (first | go_values | go_skip | go_guarded | go_step | go_upon))
  refine HN.out _ w2 _ (c - 9) v' _ ⟨rfl, rfl, rfl, rfl, rfl, rfl⟩ (by omega) (by omega) ?rd HB2.out HO2.out HV2.out
  case rd =>
    refine ⟨HM.out, ?_⟩
    rcases Nat.eq_zero_or_pos m with h | h
    · exact .inl (List.eq_nil_of_length_eq_zero (HM.out.trans h))
    · refine .inr ⟨b, o + (9), by rw [if_neg (by omega)], hlt, fun i x hx => ?_⟩
      refine (HB2.out.cell (p := ⟨b, o + (9) + i, none⟩) hlt).trans ((hB.cell (p := ⟨b, o + (9) + i, none⟩) hlt).symm.trans ?_)
      exact HRS.out i x hx

set_option maxRecDepth 100000 in
set_option maxHeartbeats 4000000 in
theorem round23_b9 (xs : List UInt8) (hxl : xs.length = 9) : Round23 (30 :: xs) (.byt xs) := by
  obtain ⟨i0, hi, hz0, hz1, hz2⟩ := info_parts info20
  obtain ⟨ib, hib, hb0, hb1, hb2⟩ := info_parts info5
  intro K Q0 w wr a c j rest v vs ys s4 u hlc hc hl hk hr hB hO hx hV hnext
  obtain ⟨b, o, rfl, hlt, hcell⟩ : ∃ b o, a = some ⟨b, o, none⟩ ∧ b < w.heap.size ∧ ∀ (i : Nat) (x : UInt8), ((30 :: xs) ++ rest)[i]? = some x → wr.cell? ⟨b, o + i, none⟩ = some (.int .u8 (x.toNat : Int)) := by
    rcases hr.2 with h | h
    · cases h
    · exact h
  have hc0 : wr.cell? ⟨b, o, none⟩ = some (.int .u8 30) := hcell 0 30 rfl
  have hlen : ((30 :: xs) ++ rest).length = rest.length + (10) := by simp only [List.length_append, List.length_cons]; omega
  have hch : (30 :: xs).length = 10 := by simp only [List.length_cons]; omega
  have hxs : ∀ (i : Nat) (x : UInt8), xs[i]? = some x → wr.cell? ⟨b, o + 1 + i, none⟩ = some (.int .u8 (x.toNat : Int)) := fun i x hi => by
    have hil : i < xs.length := (List.getElem?_eq_some_iff.1 hi).1
    have := hcell (i + 1) x (by rw [List.cons_append, List.getElem?_cons_succ, List.getElem?_append_left hil]; exact hi)
    rwa [show o + (i + 1) = o + 1 + i by omega] at this
  have hrs : ∀ (i : Nat) (x : UInt8), rest[i]? = some x → wr.cell? ⟨b, o + (10) + i, none⟩ = some (.int .u8 (x.toNat : Int)) := fun i x hi => by
    have := hcell (i + (10)) x (by rw [List.getElem?_append_right (by omega), hch, Nat.add_sub_cancel]; exact hi)
    rwa [show o + (i + (10)) = o + (10) + i by omega] at this
  rw [hlen] at hlc hl
  rw [hlen]
  have HXS := Lib.hid hxs
  have HRS := Lib.hid hrs
  have HN := Lib.hid hnext
  have HO := Lib.hid hO
  have HV := Lib.hid hV
  have HX := Lib.hid hx
  have HXL := Lib.hid hxl
  generalize hm : rest.length = m at *
  have HM := Lib.hid hm
  clear hr hcell hnext hlen hO hV hx hm hxs hrs hxl hch
  conv => arg 2; whnf
  unfold frm23
  (repeat (first | (at_builtin; refine wpList_append_own _ rfl (.const (.slice none 0 0)) (.tmp 197) 27 rfl wr.heap.size 5 ib _ 1 1 Tryd.underlying27 hib hb0 hb1 hb2 rfl (by decide) _ 0 [] rfl ?own1 ⟨b, o + 1, none⟩ 9 _ (u8s xs) rfl ?d0 ?d1 ?d2 ?d3 ?d4 ?d5 ?_) | go_values | go_skip | go_guarded | go_step | go_upon))
  case own1 => exact World.ownsRow_nil _ _ _ _
  case d0 => simp [HXL.out]
  case d1 => exact rdB.cells ⟨HXL.out, .inr ⟨b, o + 1, rfl, Nat.lt_of_lt_of_le hlt hB.size, HXS.out⟩⟩ (Below.refl _ _)
  case d2 => exact u8s_one
  case d3 => unfold maxLen; omega
  case d4 => omega
  case d5 => exact Nat.le_refl _
  intro v1 w1 hown1 hgrow1 _
  rw [Nat.zero_add, List.nil_append] at hown1
  obtain ⟨va, vc, rfl, q1, q2, q3⟩ := owns_rdB HXL.out hown1
  have B1 : Below wr.heap.size wr w1 := (Below.refl _ _).grown hgrow1 (Nat.le_refl _) (fun g h => by cases h)
  have HO1 := Lib.hid (ownsRow_below HO.out B1 (Nat.le_refl _))
  have HV1 := Lib.hid (HV.out.below B1 (Nat.le_refl _) (Nat.le_refl _) B1.size)
  have HU := Lib.hid (show avIs w1.heap.size w1 (.byt xs) (.iface 27 (.slice va 9 vc)) from ⟨va, 9, vc, rfl, q1, q2, q3⟩)
  have BW := hB.trans (B1.mono hB.size)
  clear hown1 hgrow1 q1 q2 q3
  (repeat (first | (at_builtin; refine wpList_append_own _ rfl (.tmp 193) (.tmp 200) 54 rfl w.heap.size 20 i0 _ 1 16 Tryd.underlying54 hi hz0 hz1 hz2 rfl (by decide) _ j vs rfl ?own ⟨w1.heap.size, 0, none⟩ 1 1 [_] rfl rfl (by exact fun j u hj => (cell_new w1 20 _ j).trans hj) ?c2 ?c3 ?c4 ?c5 ?_) | go_values | go_skip | go_guarded | go_step | go_upon))
  case own => exact HO1.out.alloc _
  case c2 => intro u hu; simp at hu; subst hu; rfl
  case c3 => unfold maxLen; omega
  case c4 => omega
  case c5 => have := BW.size; show _ ≤ (w1.alloc _).heap.size; simp; omega
  intro v' w2 hown hgrow _
  have hV2 := areV_snoc HO1.out HX.out HV1.out HU.out hgrow
  have hB2 := (BW.alloc BW.size (.cells #[.iface 27 (.slice va 9 vc)] 20)).grown hgrow (by have := BW.size; show _ ≤ (w1.alloc _).heap.size; simp; omega) (fun g hg => (HO1.out.lt g hg).1)
  have HO2 := Lib.hid hown
  have HV2 := Lib.hid hV2
  have HB2 := Lib.hid hB2
  clear hown hgrow hV2 hB2
  (repeat (first | go_values | go_skip | go_guarded | go_step | go_upon))
  refine HN.out _ w2 _ (c - 10) v' _ ⟨rfl, rfl, rfl, rfl, rfl, rfl⟩ (by omega) (by omega) ?rd HB2.out HO2.out HV2.out
  case rd =>
    refine ⟨HM.out, ?_⟩
    rcases Nat.eq_zero_or_pos m with h | h
    · exact .inl (List.eq_nil_of_length_eq_zero (HM.out.trans h))
    · refine .inr ⟨b, o + (10), by rw [if_neg (by omega)], hlt, fun i x hx => ?_⟩
      refine (HB2.out.cell (p := ⟨b, o + (10) + i, none⟩) hlt).trans ((hB.cell (p := ⟨b, o + (10) + i, none⟩) hlt).symm.trans ?_)
      exact HRS.out i x hx

end Go.Proofs.YtaoonpncnahhgaaDoor
