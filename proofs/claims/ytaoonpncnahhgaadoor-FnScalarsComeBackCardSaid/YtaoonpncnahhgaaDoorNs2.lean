/-
  The rounds of DecodeScalars over texts: tags 51, 52, 53, 54, 55, 56, 57, 58, 59, 60.
-/
import Derived.Test.YtaoonpncnahhgaaDoorD11
namespace Go.Proofs.YtaoonpncnahhgaaDoor
open Go.RowKit

set_option maxRecDepth 100000 in
set_option maxHeartbeats 4000000 in
theorem round23_s10 (xs : List UInt8) (hxl : xs.length = 10) : Round23 (51 :: xs) (.str xs) := by
  obtain ⟨i0, hi, hz0, hz1, hz2⟩ := info_parts info20
  obtain ⟨ib, hib, hb0, hb1, hb2⟩ := info_parts info5
  intro K Q0 w wr a c j rest v vs ys s4 u hlc hc hl hk hr hB hO hx hV hnext
  obtain ⟨b, o, rfl, hlt, hcell⟩ : ∃ b o, a = some ⟨b, o, none⟩ ∧ b < w.heap.size ∧ ∀ (i : Nat) (x : UInt8), ((51 :: xs) ++ rest)[i]? = some x → wr.cell? ⟨b, o + i, none⟩ = some (.int .u8 (x.toNat : Int)) := by
    rcases hr.2 with h | h
    · cases h
    · exact h
  have hc0 : wr.cell? ⟨b, o, none⟩ = some (.int .u8 51) := hcell 0 51 rfl
  have hlen : ((51 :: xs) ++ rest).length = rest.length + (11) := by simp only [List.length_append, List.length_cons]; omega
  have hch : (51 :: xs).length = 11 := by simp only [List.length_cons]; omega
  have hxs : ∀ (i : Nat) (x : UInt8), xs[i]? = some x → wr.cell? ⟨b, o + 1 + i, none⟩ = some (.int .u8 (x.toNat : Int)) := fun i x hi => by
    have hil : i < xs.length := (List.getElem?_eq_some_iff.1 hi).1
    have := hcell (i + 1) x (by rw [List.cons_append, List.getElem?_cons_succ, List.getElem?_append_left hil]; exact hi)
    rwa [show o + (i + 1) = o + 1 + i by omega] at this
  have hrs : ∀ (i : Nat) (x : UInt8), rest[i]? = some x → wr.cell? ⟨b, o + (11) + i, none⟩ = some (.int .u8 (x.toNat : Int)) := fun i x hi => by
    have := hcell (i + (11)) x (by rw [List.getElem?_append_right (by omega), hch, Nat.add_sub_cancel]; exact hi)
    rwa [show o + (i + (11)) = o + (11) + i by omega] at this
  rw [hlen] at hlc hl
  rw [hlen]
  have HXS := Lib.hid hxs
  have HRS := Lib.hid hrs
  have HN := Lib.hid hnext
  have HO := Lib.hid hO
  have HV := Lib.hid hV
  have HX := Lib.hid hx
  have HXL := Lib.hid hxl
  generalize hm : rest.length = m at *
  have HM := Lib.hid hm
  have hcv : ∀ d : Nat, (convert 27 9 (.slice (some ⟨b, o + 1, none⟩) 10 d)).run Tryd.prog wr = .ok (.string ⟨xs.toArray⟩) wr := fun d => run_bytes_string ⟨HXL.out, .inr ⟨b, o + 1, rfl, Nat.lt_of_lt_of_le hlt hB.size, HXS.out⟩⟩ 27 9 5 Tryd.underlying27 Tryd.underlying5 Tryd.underlying9
  clear hr hcell hnext hlen hO hV hx hm hxs hrs hxl hch
  conv => arg 2; whnf
  unfold frm23
  have B1 : Below wr.heap.size wr wr := Below.refl _ _
  have HO1 := HO
  have HV1 := HV
  have HU := Lib.hid (show avIs wr.heap.size wr (.str xs) (.iface 9 (.string ⟨xs.toArray⟩)) from rfl)
  have BW := hB
  (repeat (first | (at_builtin; refine wpList_append_own _ rfl (.tmp 292) (.tmp 299) 54 rfl w.heap.size 20 i0 _ 1 16 Tryd.underlying54 hi hz0 hz1 hz2 rfl (by decide) _ j vs rfl ?own ⟨wr.heap.size, 0, none⟩ 1 1 [_] rfl rfl (by exact fun j u hj => (cell_new wr 20 _ j).trans hj) ?c2 ?c3 ?c4 ?c5 ?_) | go_values | go_skip | go_guarded | go_step | go_upon))
  case own => exact HO1.out.alloc _
  case c2 => intro u hu; simp at hu; subst hu; rfl
  case c3 => unfold maxLen; omega
  case c4 => omega
  case c5 => have := BW.size; show _ ≤ (wr.alloc _).heap.size; simp; omega
  intro v' w2 hown hgrow _
  have hV2 := areV_snoc HO1.out HX.out HV1.out HU.out hgrow
  have hB2 := (BW.alloc BW.size (.cells #[.iface 9 (.string ⟨xs.toArray⟩)] 20)).grown hgrow (by have := BW.size; show _ ≤ (wr.alloc _).heap.size; simp; omega) (fun g hg => (HO1.out.lt g hg).1)
  have HO2 := Lib.hid hown
  have HV2 := Lib.hid hV2
  have HB2 := Lib.hid hB2
  clear hown hgrow hV2 hB2
  (repeat (first | go_values | go_skip | go_guarded | go_step | go_upon))
  refine HN.out _ w2 _ (c - 11) v' _ ⟨rfl, rfl, rfl, rfl, rfl, rfl⟩ (by omega) (by omega) ?rd HB2.out HO2.out HV2.out
  case rd =>
    refine ⟨HM.out, ?_⟩
    rcases Nat.eq_zero_or_pos m with h | h
    · exact .inl (List.eq_nil_of_length_eq_zero (HM.out.trans h))
    · refine .inr ⟨b, o + (11), by rw [if_neg (by omega)], hlt, fun i x hx => ?_⟩
      refine (HB2.out.cell (p := ⟨b, o + (11) + i, none⟩) hlt).trans ((hB.cell (p := ⟨b, o + (11) + i, none⟩) hlt).symm.trans ?_)
      exact HRS.out i x hx

set_option maxRecDepth 100000 in
set_option maxHeartbeats 4000000 in
theorem round23_s11 (xs : List UInt8) (hxl : xs.length = 11) : Round23 (52 :: xs) (.str xs) := by
  obtain ⟨i0, hi, hz0, hz1, hz2⟩ := info_parts info20
  obtain ⟨ib, hib, hb0, hb1, hb2⟩ := info_parts info5
  intro K Q0 w wr a c j rest v vs ys s4 u hlc hc hl hk hr hB hO hx hV hnext
  obtain ⟨b, o, rfl, hlt, hcell⟩ : ∃ b o, a = some ⟨b, o, none⟩ ∧ b < w.heap.size ∧ ∀ (i : Nat) (x : UInt8), ((52 :: xs) ++ rest)[i]? = some x → wr.cell? ⟨b, o + i, none⟩ = some (.int .u8 (x.toNat : Int)) := by
    rcases hr.2 with h | h
    · cases h
    · exact h
  have hc0 : wr.cell? ⟨b, o, none⟩ = some (.int .u8 52) := hcell 0 52 rfl
  have hlen : ((52 :: xs) ++ rest).length = rest.length + (12) := by simp only [List.length_append, List.length_cons]; omega
  have hch : (52 :: xs).length = 12 := by simp only [List.length_cons]; omega
  have hxs : ∀ (i : Nat) (x : UInt8), xs[i]? = some x → wr.cell? ⟨b, o + 1 + i, none⟩ = some (.int .u8 (x.toNat : Int)) := fun i x hi => by
    have hil : i < xs.length := (List.getElem?_eq_some_iff.1 hi).1
    have := hcell (i + 1) x (by rw [List.cons_append, List.getElem?_cons_succ, List.getElem?_append_left hil]; exact hi)
    rwa [show o + (i + 1) = o + 1 + i by omega] at this
  have hrs : ∀ (i : Nat) (x : UInt8), rest[i]? = some x → wr.cell? ⟨b, o + (12) + i, none⟩ = some (.int .u8 (x.toNat : Int)) := fun i x hi => by
    have := hcell (i + (12)) x (by rw [List.getElem?_append_right (by omega), hch, Nat.add_sub_cancel]; exact hi)
    rwa [show o + (i + (12)) = o + (12) + i by omega] at this
  rw [hlen] at hlc hl
  rw [hlen]
  have HXS := Lib.hid hxs
  have HRS := Lib.hid hrs
  have HN := Lib.hid hnext
  have HO := Lib.hid hO
  have HV := Lib.hid hV
  have HX := Lib.hid hx
  have HXL := Lib.hid hxl
  generalize hm : rest.length = m at *
  have HM := Lib.hid hm
  have hcv : ∀ d : Nat, (convert 27 9 (.slice (some ⟨b, o + 1, none⟩) 11 d)).run Tryd.prog wr = .ok (.string ⟨xs.toArray⟩) wr := fun d => run_bytes_string ⟨HXL.out, .inr ⟨b, o + 1, rfl, Nat.lt_of_lt_of_le hlt hB.size, HXS.out⟩⟩ 27 9 5 Tryd.underlying27 Tryd.underlying5 Tryd.underlying9
  clear hr hcell hnext hlen hO hV hx hm hxs hrs hxl hch
  conv => arg 2; whnf
  unfold frm23
  have B1 : Below wr.heap.size wr wr := Below.refl _ _
  have HO1 := HO
  have HV1 := HV
  have HU := Lib.hid (show avIs wr.heap.size wr (.str xs) (.iface 9 (.string ⟨xs.toArray⟩)) from rfl)
  have BW := hB
  (repeat (first | (at_builtin; refine wpList_append_own _ rfl (.tmp 292) (.tmp 299) 54 rfl w.heap.size 20 i0 _ 1 16 Tryd.underlying54 hi hz0 hz1 hz2 rfl (by decide) _ j vs rfl ?own ⟨wr.heap.size, 0, none⟩ 1 1 [_] rfl rfl (by exact fun j u hj => (cell_new wr 20 _ j).trans hj) ?c2 ?c3 ?c4 ?c5 ?_) | go_values | go_skip | go_guarded | go_step | go_upon))
  case own => exact HO1.out.alloc _
  case c2 => intro u hu; simp at hu; subst hu; rfl
  case c3 => unfold maxLen; omega
  case c4 => omega
  case c5 => have := BW.size; show _ ≤ (wr.alloc _).heap.size; simp; omega
  intro v' w2 hown hgrow _
  have hV2 := areV_snoc HO1.out HX.out HV1.out HU.out hgrow
  have hB2 := (BW.alloc BW.size (.cells #[.iface 9 (.string ⟨xs.toArray⟩)] 20)).grown hgrow (by have := BW.size; show _ ≤ (wr.alloc _).heap.size; simp; omega) (fun g hg => (HO1.out.lt g hg).1)
  have HO2 := Lib.hid hown
  have HV2 := Lib.hid hV2
  have HB2 := Lib.hid hB2
  clear hown hgrow hV2 hB2
  (repeat (first | go_values | go_skip | go_guarded | go_step | go_upon))
  refine HN.out _ w2 _ (c - 12) v' _ ⟨rfl, rfl, rfl, rfl, rfl, rfl⟩ (by omega) (by omega) ?rd HB2.out HO2.out HV2.out
  case rd =>
    refine ⟨HM.out, ?_⟩
    rcases Nat.eq_zero_or_pos m with h | h
    · exact .inl (List.eq_nil_of_length_eq_zero (HM.out.trans h))
    · refine .inr ⟨b, o + (12), by rw [if_neg (by omega)], hlt, fun i x hx => ?_⟩
      refine (HB2.out.cell (p := ⟨b, o + (12) + i, none⟩) hlt).trans ((hB.cell (p := ⟨b, o + (12) + i, none⟩) hlt).symm.trans ?_)
      exact HRS.out i x hx

set_option maxRecDepth 100000 in
set_option maxHeartbeats 4000000 in
theorem round23_s12 (xs : List UInt8) (hxl : xs.length = 12) : Round23 (53 :: xs) (.str xs) := by
  obtain ⟨i0, hi, hz0, hz1, hz2⟩ := info_parts info20
  obtain ⟨ib, hib, hb0, hb1, hb2⟩ := info_parts info5
  intro K Q0 w wr a c j rest v vs ys s4 u hlc hc hl hk hr hB hO hx hV hnext
  obtain ⟨b, o, rfl, hlt, hcell⟩ : ∃ b o, a = some ⟨b, o, none⟩ ∧ b < w.heap.size ∧ ∀ (i : Nat) (x : UInt8), ((53 :: xs) ++ rest)[i]? = some x → wr.cell? ⟨b, o + i, none⟩ = some (.int .u8 (x.toNat : Int)) := by
    rcases hr.2 with h | h
    · cases h
    · exact h
  have hc0 : wr.cell? ⟨b, o, none⟩ = some (.int .u8 53) := hcell 0 53 rfl
  have hlen : ((53 :: xs) ++ rest).length = rest.length + (13) := by simp only [List.length_append, List.length_cons]; omega
  have hch : (53 :: xs).length = 13 := by simp only [List.length_cons]; omega
  have hxs : ∀ (i : Nat) (x : UInt8), xs[i]? = some x → wr.cell? ⟨b, o + 1 + i, none⟩ = some (.int .u8 (x.toNat : Int)) := fun i x hi => by
    have hil : i < xs.length := (List.getElem?_eq_some_iff.1 hi).1
    have := hcell (i + 1) x (by rw [List.cons_append, List.getElem?_cons_succ, List.getElem?_append_left hil]; exact hi)
    rwa [show o + (i + 1) = o + 1 + i by omega] at this
  have hrs : ∀ (i : Nat) (x : UInt8), rest[i]? = some x → wr.cell? ⟨b, o + (13) + i, none⟩ = some (.int .u8 (x.toNat : Int)) := fun i x hi => by
    have := hcell (i + (13)) x (by rw [List.getElem?_append_right (by omega), hch, Nat.add_sub_cancel]; exact hi)
    rwa [show o + (i + (13)) = o + (13) + i by omega] at this
  rw [hlen] at hlc hl
  rw [hlen]
  have HXS := Lib.hid hxs
  have HRS := Lib.hid hrs
  have HN := Lib.hid hnext
  have HO := Lib.hid hO
  have HV := Lib.hid hV
  have HX := Lib.hid hx
  have HXL := Lib.hid hxl
  generalize hm : rest.length = m at *
  have HM := Lib.hid hm
  have hcv : ∀ d : Nat, (convert 27 9 (.slice (some ⟨b, o + 1, none⟩) 12 d)).run Tryd.prog wr = .ok (.string ⟨xs.toArray⟩) wr := fun d => run_bytes_string ⟨HXL.out, .inr ⟨b, o + 1, rfl, Nat.lt_of_lt_of_le hlt hB.size, HXS.out⟩⟩ 27 9 5 Tryd.underlying27 Tryd.underlying5 Tryd.underlying9
  clear hr hcell hnext hlen hO hV hx hm hxs hrs hxl hch
  conv => arg 2; whnf
  unfold frm23
  have B1 : Below wr.heap.size wr wr := Below.refl _ _
  have HO1 := HO
  have HV1 := HV
  have HU := Lib.hid (show avIs wr.heap.size wr (.str xs) (.iface 9 (.string ⟨xs.toArray⟩)) from rfl)
  have BW := hB
  (repeat (first | (at_builtin; refine wpList_append_own _ rfl (.tmp 292) (.tmp 299) 54 rfl w.heap.size 20 i0 _ 1 16 Tryd.underlying54 hi hz0 hz1 hz2 rfl (by decide) _ j vs rfl ?own ⟨wr.heap.size, 0, none⟩ 1 1 [_] rfl rfl (by exact fun j u hj => (cell_new wr 20 _ j).trans hj) ?c2 ?c3 ?c4 ?c5 ?_) | go_values | go_skip | go_guarded | go_step | go_upon))
  case own => exact HO1.out.alloc _
  case c2 => intro u hu; simp at hu; subst hu; rfl
  case c3 => unfold maxLen; omega
  case c4 => omega
  case c5 => have := BW.size; show _ ≤ (wr.alloc _).heap.size; simp; omega
  intro v' w2 hown hgrow _
  have hV2 := areV_snoc HO1.out HX.out HV1.out HU.out hgrow
  have hB2 := (BW.alloc BW.size (.cells #[.iface 9 (.string ⟨xs.toArray⟩)] 20)).grown hgrow (by have := BW.size; show _ ≤ (wr.alloc _).heap.size; simp; omega) (fun g hg => (HO1.out.lt g hg).1)
  have HO2 := Lib.hid hown
  have HV2 := Lib.hid hV2
  have HB2 := Lib.hid hB2
  clear hown hgrow hV2 hB2
  (repeat (first | go_values | go_skip | go_guarded | go_step | go_upon))
  refine HN.out _ w2 _ (c - 13) v' _ ⟨rfl, rfl, rfl, rfl, rfl, rfl⟩ (by omega) (by omega) ?rd HB2.out HO2.out HV2.out
  case rd =>
    refine ⟨HM.out, ?_⟩
    rcases Nat.eq_zero_or_pos m with h | h
    · exact .inl (List.eq_nil_of_length_eq_zero (HM.out.trans h))
    · refine .inr ⟨b, o + (13), by rw [if_neg (by omega)], hlt, fun i x hx => ?_⟩
      refine (HB2.out.cell (p := ⟨b, o + (13) + i, none⟩) hlt).trans ((hB.cell (p := ⟨b, o + (13) + i, none⟩) hlt).symm.trans ?_)
      exact HRS.out i x hx

set_option maxRecDepth 100000 in
set_option maxHeartbeats 4000000 in
theorem round23_s13 (xs : List UInt8) (hxl : xs.length = 13) : Round23 (54 :: xs) (.str xs) := by
  obtain ⟨i0, hi, hz0, hz1, hz2⟩ := info_parts info20
  obtain ⟨ib, hib, hb0, hb1, hb2⟩ := info_parts info5
  intro K Q0 w wr a c j rest v vs ys s4 u hlc hc hl hk hr hB hO hx hV hnext
  obtain ⟨b, o, rfl, hlt, hcell⟩ : ∃ b o, a = some ⟨b, o, none⟩ ∧ b < w.heap.size ∧ ∀ (i : Nat) (x : UInt8), ((54 :: xs) ++ rest)[i]? = some x → wr.cell? ⟨b, o + i, none⟩ = some (.int .u8 (x.toNat : Int)) := by
    rcases hr.2 with h | h
    · cases h
    · exact h
  have hc0 : wr.cell? ⟨b, o, none⟩ = some (.int .u8 54) := hcell 0 54 rfl
  have hlen : ((54 :: xs) ++ rest).length = rest.length + (14) := by simp only [List.length_append, List.length_cons]; omega
  have hch : (54 :: xs).length = 14 := by simp only [List.length_cons]; omega
  have hxs : ∀ (i : Nat) (x : UInt8), xs[i]? = some x → wr.cell? ⟨b, o + 1 + i, none⟩ = some (.int .u8 (x.toNat : Int)) := fun i x hi => by
    have hil : i < xs.length := (List.getElem?_eq_some_iff.1 hi).1
    have := hcell (i + 1) x (by rw [List.cons_append, List.getElem?_cons_succ, List.getElem?_append_left hil]; exact hi)
    rwa [show o + (i + 1) = o + 1 + i by omega] at this
  have hrs : ∀ (i : Nat) (x : UInt8), rest[i]? = some x → wr.cell? ⟨b, o + (14) + i, none⟩ = some (.int .u8 (x.toNat : Int)) := fun i x hi => by
    have := hcell (i + (14)) x (by rw [List.getElem?_append_right (by omega), hch, Nat.add_sub_cancel]; exact hi)
    rwa [show o + (i + (14)) = o + (14) + i by omega] at this
  rw [hlen] at hlc hl
  rw [hlen]
  have HXS := Lib.hid hxs
  have HRS := Lib.hid hrs
  have HN := Lib.hid hnext
  have HO := Lib.hid hO
  have HV := Lib.hid hV
  have HX := Lib.hid hx
  have HXL := Lib.hid hxl
  generalize hm : rest.length = m at *
  have HM := Lib.hid hm
  have hcv : ∀ d : Nat, (convert 27 9 (.slice (some ⟨b, o + 1, none⟩) 13 d)).run Tryd.prog wr = .ok (.string ⟨xs.toArray⟩) wr := fun d => run_bytes_string ⟨HXL.out, .inr ⟨b, o + 1, rfl, Nat.lt_of_lt_of_le hlt hB.size, HXS.out⟩⟩ 27 9 5 Tryd.underlying27 Tryd.underlying5 Tryd.underlying9
  clear hr hcell hnext hlen hO hV hx hm hxs hrs hxl hch
  conv => arg 2; whnf
  unfold frm23
  have B1 : Below wr.heap.size wr wr := Below.refl _ _
  have HO1 := HO
  have HV1 := HV
  have HU := Lib.hid (show avIs wr.heap.size wr (.str xs) (.iface 9 (.string ⟨xs.toArray⟩)) from rfl)
  have BW := hB
  (repeat (first | (at_builtin; refine wpList_append_own _ rfl (.tmp 292) (.tmp 299) 54 rfl w.heap.size 20 i0 _ 1 16 Tryd.underlying54 hi hz0 hz1 hz2 rfl (by decide) _ j vs rfl ?own ⟨wr.heap.size, 0, none⟩ 1 1 [_] rfl rfl (by exact fun j u hj => (cell_new wr 20 _ j).trans hj) ?c2 ?c3 ?c4 ?c5 ?_) | go_values | go_skip | go_guarded | go_step | go_upon))
  case own => exact HO1.out.alloc _
  case c2 => intro u hu; simp at hu; subst hu; rfl
  case c3 => unfold maxLen; omega
  case c4 => omega
  case c5 => have := BW.size; show _ ≤ (wr.alloc _).heap.size; simp; omega
  intro v' w2 hown hgrow _
  have hV2 := areV_snoc HO1.out HX.out HV1.out HU.out hgrow
  have hB2 := (BW.alloc BW.size (.cells #[.iface 9 (.string ⟨xs.toArray⟩)] 20)).grown hgrow (by have := BW.size; show _ ≤ (wr.alloc _).heap.size; simp; omega) (fun g hg => (HO1.out.lt g hg).1)
  have HO2 := Lib.hid hown
  have HV2 := Lib.hid hV2
  have HB2 := Lib.hid hB2
  clear hown hgrow hV2 hB2
  (repeat (first | go_values | go_skip | go_guarded | go_step | go_upon))
  refine HN.out _ w2 _ (c - 14) v' _ ⟨rfl, rfl, rfl, rfl, rfl, rfl⟩ (by omega) (by omega) ?rd HB2.out HO2.out HV2.out
  case rd =>
    refine ⟨HM.out, ?_⟩
    rcases Nat.eq_zero_or_pos m with h | h
    · exact .inl (List.eq_nil_of_length_eq_zero (HM.out.trans h))
    · refine .inr ⟨b, o + (14), by rw [if_neg (by omega)], hlt, fun i x hx => ?_⟩
      refine (HB2.out.cell (p := ⟨b, o + (14) + i, none⟩) hlt).trans ((hB.cell (p := ⟨b, o + (14) + i, none⟩) hlt).symm.trans ?_)
      exact HRS.out i x hx

set_option maxRecDepth 100000 in
set_option maxHeartbeats 4000000 in
theorem round23_s14 (xs : List UInt8) (hxl : xs.length = 14) : Round23 (55 :: xs) (.str xs) := by
  obtain ⟨i0, hi, hz0, hz1, hz2⟩ := info_parts info20
  obtain ⟨ib, hib, hb0, hb1, hb2⟩ := info_parts info5
  intro K Q0 w wr a c j rest v vs ys s4 u hlc hc hl hk hr hB hO hx hV hnext
  obtain ⟨b, o, rfl, hlt, hcell⟩ : ∃ b o, a = some ⟨b, o, none⟩ ∧ b < w.heap.size ∧ ∀ (i : Nat) (x : UInt8), ((55 :: xs) ++ rest)[i]? = some x → wr.cell? ⟨b, o + i, none⟩ = some (.int .u8 (x.toNat : Int)) := by
    rcases hr.2 with h | h
    · cases h
    · exact h
  have hc0 : wr.cell? ⟨b, o, none⟩ = some (.int .u8 55) := hcell 0 55 rfl
  have hlen : ((55 :: xs) ++ rest).length = rest.length + (15) := by simp only [List.length_append, List.length_cons]; omega
  have hch : (55 :: xs).length = 15 := by simp only [List.length_cons]; omega
  have hxs : ∀ (i : Nat) (x : UInt8), xs[i]? = some x → wr.cell? ⟨b, o + 1 + i, none⟩ = some (.int .u8 (x.toNat : Int)) := fun i x hi => by
    have hil : i < xs.length := (List.getElem?_eq_some_iff.1 hi).1
    have := hcell (i + 1) x (by rw [List.cons_append, List.getElem?_cons_succ, List.getElem?_append_left hil]; exact hi)
    rwa [show o + (i + 1) = o + 1 + i by omega] at this
  have hrs : ∀ (i : Nat) (x : UInt8), rest[i]? = some x → wr.cell? ⟨b, o + (15) + i, none⟩ = some (.int .u8 (x.toNat : Int)) := fun i x hi => by
    have := hcell (i + (15)) x (by rw [List.getElem?_append_right (by omega), hch, Nat.add_sub_cancel]; exact hi)
    rwa [show o + (i + (15)) = o + (15) + i by omega] at this
  rw [hlen] at hlc hl
  rw [hlen]
  have HXS := Lib.hid hxs
  have HRS := Lib.hid hrs
  have HN := Lib.hid hnext
  have HO := Lib.hid hO
  have HV := Lib.hid hV
  have HX := Lib.hid hx
  have HXL := Lib.hid hxl
  generalize hm : rest.length = m at *
  have HM := Lib.hid hm
  have hcv : ∀ d : Nat, (convert 27 9 (.slice (some ⟨b, o + 1, none⟩) 14 d)).run Tryd.prog wr = .ok (.string ⟨xs.toArray⟩) wr := fun d => run_bytes_string ⟨HXL.out, .inr ⟨b, o + 1, rfl, Nat.lt_of_lt_of_le hlt hB.size, HXS.out⟩⟩ 27 9 5 Tryd.underlying27 Tryd.underlying5 Tryd.underlying9
  clear hr hcell hnext hlen hO hV hx hm hxs hrs hxl hch
  conv => arg 2; whnf
  unfold frm23
  have B1 : Below wr.heap.size wr wr := Below.refl _ _
  have HO1 := HO
  have HV1 := HV
  have HU := Lib.hid (show avIs wr.heap.size wr (.str xs) (.iface 9 (.string ⟨xs.toArray⟩)) from rfl)
  have BW := hB
  (repeat (first | (at_builtin; refine wpList_append_own _ rfl (.tmp 292) (.tmp 299) 54 rfl w.heap.size 20 i0 _ 1 16 Tryd.underlying54 hi hz0 hz1 hz2 rfl (by decide) _ j vs rfl ?own ⟨wr.heap.size, 0, none⟩ 1 1 [_] rfl rfl (by exact fun j u hj => (cell_new wr 20 _ j).trans hj) ?c2 ?c3 ?c4 ?c5 ?_) | go_values | go_skip | go_guarded | go_step | go_upon))
  case own => exact HO1.out.alloc _
  case c2 => intro u hu; simp at hu; subst hu; rfl
  case c3 => unfold maxLen; omega
  case c4 => omega
  case c5 => have := BW.size; show _ ≤ (wr.alloc _).heap.size; simp; omega
  intro v' w2 hown hgrow _
  have hV2 := areV_snoc HO1.out HX.out HV1.out HU.out hgrow
  have hB2 := (BW.alloc BW.size (.cells #[.iface 9 (.string ⟨xs.toArray⟩)] 20)).grown hgrow (by have := BW.size; show _ ≤ (wr.alloc _).heap.size; simp; omega) (fun g hg => (HO1.out.lt g hg).1)
  have HO2 := Lib.hid hown
  have HV2 := Lib.hid hV2
  have HB2 := Lib.hid hB2
  clear hown hgrow hV2 hB2
  (repeat (first | go_values | go_skip | go_guarded | go_step | go_upon))
  refine HN.out _ w2 _ (c - 15) v' _ ⟨rfl, rfl, rfl, rfl, rfl, rfl⟩ (by omega) (by omega) ?rd HB2.out HO2.out HV2.out
  case rd =>
    refine ⟨HM.out, ?_⟩
    rcases Nat.eq_zero_or_pos m with h | h
    · exact .inl (List.eq_nil_of_length_eq_zero (HM.out.trans h))
    · refine .inr ⟨b, o + (15), by rw [if_neg (by omega)], hlt, fun i x hx => ?_⟩
      refine (HB2.out.cell (p := ⟨b, o + (15) + i, none⟩) hlt).trans ((hB.cell (p := ⟨b, o + (15) + i, none⟩) hlt).symm.trans ?_)
      exact HRS.out i x hx

set_option maxRecDepth 100000 in
set_option maxHeartbeats 4000000 in
theorem round23_s15 (xs : List UInt8) (hxl : xs.length = 15) : Round23 (56 :: xs) (.str xs) := by
  obtain ⟨i0, hi, hz0, hz1, hz2⟩ := info_parts info20
  obtain ⟨ib, hib, hb0, hb1, hb2⟩ := info_parts info5
  intro K Q0 w wr a c j rest v vs ys s4 u hlc hc hl hk hr hB hO hx hV hnext
  obtain ⟨b, o, rfl, hlt, hcell⟩ : ∃ b o, a = some ⟨b, o, none⟩ ∧ b < w.heap.size ∧ ∀ (i : Nat) (x : UInt8), ((56 :: xs) ++ rest)[i]? = some x → wr.cell? ⟨b, o + i, none⟩ = some (.int .u8 (x.toNat : Int)) := by
    rcases hr.2 with h | h
    · cases h
    · exact h
  have hc0 : wr.cell? ⟨b, o, none⟩ = some (.int .u8 56) := hcell 0 56 rfl
  have hlen : ((56 :: xs) ++ rest).length = rest.length + (16) := by simp only [List.length_append, List.length_cons]; omega
  have hch : (56 :: xs).length = 16 := by simp only [List.length_cons]; omega
  have hxs : ∀ (i : Nat) (x : UInt8), xs[i]? = some x → wr.cell? ⟨b, o + 1 + i, none⟩ = some (.int .u8 (x.toNat : Int)) := fun i x hi => by
    have hil : i < xs.length := (List.getElem?_eq_some_iff.1 hi).1
    have := hcell (i + 1) x (by rw [List.cons_append, List.getElem?_cons_succ, List.getElem?_append_left hil]; exact hi)
    rwa [show o + (i + 1) = o + 1 + i by omega] at this
  have hrs : ∀ (i : Nat) (x : UInt8), rest[i]? = some x → wr.cell? ⟨b, o + (16) + i, none⟩ = some (.int .u8 (x.toNat : Int)) := fun i x hi => by
    have := hcell (i + (16)) x (by rw [List.getElem?_append_right (by omega), hch, Nat.add_sub_cancel]; exact hi)
    rwa [show o + (i + (16)) = o + (16) + i by omega] at this
  rw [hlen] at hlc hl
  rw [hlen]
  have HXS := Lib.hid hxs
  have HRS := Lib.hid hrs
  have HN := Lib.hid hnext
  have HO := Lib.hid hO
  have HV := Lib.hid hV
  have HX := Lib.hid hx
  have HXL := Lib.hid hxl
  generalize hm : rest.length = m at *
  have HM := Lib.hid hm
  have hcv : ∀ d : Nat, (convert 27 9 (.slice (some ⟨b, o + 1, none⟩) 15 d)).run Tryd.prog wr = .ok (.string ⟨xs.toArray⟩) wr := fun d => run_bytes_string ⟨HXL.out, .inr ⟨b, o + 1, rfl, Nat.lt_of_lt_of_le hlt hB.size, HXS.out⟩⟩ 27 9 5 Tryd.underlying27 Tryd.underlying5 Tryd.underlying9
  clear hr hcell hnext hlen hO hV hx hm hxs hrs hxl hch
  conv => arg 2; whnf
  unfold frm23
  have B1 : Below wr.heap.size wr wr := Below.refl _ _
  have HO1 := HO
  have HV1 := HV
  have HU := Lib.hid (show avIs wr.heap.size wr (.str xs) (.iface 9 (.string ⟨xs.toArray⟩)) from rfl)
  have BW := hB
  (repeat (first | (at_builtin; refine wpList_append_own _ rfl (.tmp 292) (.tmp 299) 54 rfl w.heap.size 20 i0 _ 1 16 Tryd.underlying54 hi hz0 hz1 hz2 rfl (by decide) _ j vs rfl ?own ⟨wr.heap.size, 0, none⟩ 1 1 [_] rfl rfl (by exact fun j u hj => (cell_new wr 20 _ j).trans hj) ?c2 ?c3 ?c4 ?c5 ?_) | go_values | go_skip | go_guarded | go_step | go_upon))
  case own => exact HO1.out.alloc _
  case c2 => intro u hu; simp at hu; subst hu; rfl
  case c3 => unfold maxLen; omega
  case c4 => omega
  case c5 => have := BW.size; show _ ≤ (wr.alloc _).heap.size; simp; omega
  intro v' w2 hown hgrow _
  have hV2 := areV_snoc HO1.out HX.out HV1.out HU.out hgrow
  have hB2 := (BW.alloc BW.size (.cells #[.iface 9 (.string ⟨xs.toArray⟩)] 20)).grown hgrow (by have := BW.size; show _ ≤ (wr.alloc _).heap.size; simp; omega) (fun g hg => (HO1.out.lt g hg).1)
  have HO2 := Lib.hid hown
  have HV2 := Lib.hid hV2
  have HB2 := Lib.hid hB2
  clear hown hgrow hV2 hB2
  (repeat (first | go_values | go_skip | go_guarded | go_step | go_upon))
  refine HN.out _ w2 _ (c - 16) v' _ ⟨rfl, rfl, rfl, rfl, rfl, rfl⟩ (by omega) (by omega) ?rd HB2.out HO2.out HV2.out
  case rd =>
    refine ⟨HM.out, ?_⟩
    rcases Nat.eq_zero_or_pos m with h | h
    · exact .inl (List.eq_nil_of_length_eq_zero (HM.out.trans h))
    · refine .inr ⟨b, o + (16), by rw [if_neg (by omega)], hlt, fun i x hx => ?_⟩
      refine (HB2.out.cell (p := ⟨b, o + (16) + i, none⟩) hlt).trans ((hB.cell (p := ⟨b, o + (16) + i, none⟩) hlt).symm.trans ?_)
      exact HRS.out i x hx

set_option maxRecDepth 100000 in
set_option maxHeartbeats 4000000 in
theorem round23_s16 (xs : List UInt8) (hxl : xs.length = 16) : Round23 (57 :: xs) (.str xs) := by
  obtain ⟨i0, hi, hz0, hz1, hz2⟩ := info_parts info20
  obtain ⟨ib, hib, hb0, hb1, hb2⟩ := info_parts info5
  intro K Q0 w wr a c j rest v vs ys s4 u hlc hc hl hk hr hB hO hx hV hnext
  obtain ⟨b, o, rfl, hlt, hcell⟩ : ∃ b o, a = some ⟨b, o, none⟩ ∧ b < w.heap.size ∧ ∀ (i : Nat) (x : UInt8), ((57 :: xs) ++ rest)[i]? = some x → wr.cell? ⟨b, o + i, none⟩ = some (.int .u8 (x.toNat : Int)) := by
    rcases hr.2 with h | h
    · cases h
    · exact h
  have hc0 : wr.cell? ⟨b, o, none⟩ = some (.int .u8 57) := hcell 0 57 rfl
  have hlen : ((57 :: xs) ++ rest).length = rest.length + (17) := by simp only [List.length_append, List.length_cons]; omega
  have hch : (57 :: xs).length = 17 := by simp only [List.length_cons]; omega
  have hxs : ∀ (i : Nat) (x : UInt8), xs[i]? = some x → wr.cell? ⟨b, o + 1 + i, none⟩ = some (.int .u8 (x.toNat : Int)) := fun i x hi => by
    have hil : i < xs.length := (List.getElem?_eq_some_iff.1 hi).1
    have := hcell (i + 1) x (by rw [List.cons_append, List.getElem?_cons_succ, List.getElem?_append_left hil]; exact hi)
    rwa [show o + (i + 1) = o + 1 + i by omega] at this
  have hrs : ∀ (i : Nat) (x : UInt8), rest[i]? = some x → wr.cell? ⟨b, o + (17) + i, none⟩ = some (.int .u8 (x.toNat : Int)) := fun i x hi => by
    have := hcell (i + (17)) x (by rw [List.getElem?_append_right (by omega), hch, Nat.add_sub_cancel]; exact hi)
    rwa [show o + (i + (17)) = o + (17) + i by omega] at this
  rw [hlen] at hlc hl
  rw [hlen]
  have HXS := Lib.hid hxs
  have HRS := Lib.hid hrs
  have HN := Lib.hid hnext
  have HO := Lib.hid hO
  have HV := Lib.hid hV
  have HX := Lib.hid hx
  have HXL := Lib.hid hxl
  generalize hm : rest.length = m at *
  have HM := Lib.hid hm
  have hcv : ∀ d : Nat, (convert 27 9 (.slice (some ⟨b, o + 1, none⟩) 16 d)).run Tryd.prog wr = .ok (.string ⟨xs.toArray⟩) wr := fun d => run_bytes_string ⟨HXL.out, .inr ⟨b, o + 1, rfl, Nat.lt_of_lt_of_le hlt hB.size, HXS.out⟩⟩ 27 9 5 Tryd.underlying27 Tryd.underlying5 Tryd.underlying9
  clear hr hcell hnext hlen hO hV hx hm hxs hrs hxl hch
  conv => arg 2; whnf
  unfold frm23
  have B1 : Below wr.heap.size wr wr := Below.refl _ _
  have HO1 := HO
  have HV1 := HV
  have HU := Lib.hid (show avIs wr.heap.size wr (.str xs) (.iface 9 (.string ⟨xs.toArray⟩)) from rfl)
  have BW := hB
  (repeat (first | (at_builtin; refine wpList_append_own _ rfl (.tmp 292) (.tmp 299) 54 rfl w.heap.size 20 i0 _ 1 16 Tryd.underlying54 hi hz0 hz1 hz2 rfl (by decide) _ j vs rfl ?own ⟨wr.heap.size, 0, none⟩ 1 1 [_] rfl rfl (by exact fun j u hj => (cell_new wr 20 _ j).trans hj) ?c2 ?c3 ?c4 ?c5 ?_) | go_values | go_skip | go_guarded | go_step | go_upon))
  case own => exact HO1.out.alloc _
  case c2 => intro u hu; simp at hu; subst hu; rfl
  case c3 => unfold maxLen; omega
  case c4 => omega
  case c5 => have := BW.size; show _ ≤ (wr.alloc _).heap.size; simp; omega
  intro v' w2 hown hgrow _
  have hV2 := areV_snoc HO1.out HX.out HV1.out HU.out hgrow
  have hB2 := (BW.alloc BW.size (.cells #[.iface 9 (.string ⟨xs.toArray⟩)] 20)).grown hgrow (by have := BW.size; show _ ≤ (wr.alloc _).heap.size; simp; omega) (fun g hg => (HO1.out.lt g hg).1)
  have HO2 := Lib.hid hown
  have HV2 := Lib.hid hV2
  have HB2 := Lib.hid hB2
  clear hown hgrow hV2 hB2
  (repeat (first | go_values | go_skip | go_guarded | go_step | go_upon))
  refine HN.out _ w2 _ (c - 17) v' _ ⟨rfl, rfl, rfl, rfl, rfl, rfl⟩ (by omega) (by omega) ?rd HB2.out HO2.out HV2.out
  case rd =>
    refine ⟨HM.out, ?_⟩
    rcases Nat.eq_zero_or_pos m with h | h
    · exact .inl (List.eq_nil_of_length_eq_zero (HM.out.trans h))
    · refine .inr ⟨b, o + (17), by rw [if_neg (by omega)], hlt, fun i x hx => ?_⟩
      refine (HB2.out.cell (p := ⟨b, o + (17) + i, none⟩) hlt).trans ((hB.cell (p := ⟨b, o + (17) + i, none⟩) hlt).symm.trans ?_)
      exact HRS.out i x hx

set_option maxRecDepth 100000 in
set_option maxHeartbeats 4000000 in
theorem round23_s17 (xs : List UInt8) (hxl : xs.length = 17) : Round23 (58 :: xs) (.str xs) := by
  obtain ⟨i0, hi, hz0, hz1, hz2⟩ := info_parts info20
  obtain ⟨ib, hib, hb0, hb1, hb2⟩ := info_parts info5
  intro K Q0 w wr a c j rest v vs ys s4 u hlc hc hl hk hr hB hO hx hV hnext
  obtain ⟨b, o, rfl, hlt, hcell⟩ : ∃ b o, a = some ⟨b, o, none⟩ ∧ b < w.heap.size ∧ ∀ (i : Nat) (x : UInt8), ((58 :: xs) ++ rest)[i]? = some x → wr.cell? ⟨b, o + i, none⟩ = some (.int .u8 (x.toNat : Int)) := by
    rcases hr.2 with h | h
    · cases h
    · exact h
  have hc0 : wr.cell? ⟨b, o, none⟩ = some (.int .u8 58) := hcell 0 58 rfl
  have hlen : ((58 :: xs) ++ rest).length = rest.length + (18) := by simp only [List.length_append, List.length_cons]; omega
  have hch : (58 :: xs).length = 18 := by simp only [List.length_cons]; omega
  have hxs : ∀ (i : Nat) (x : UInt8), xs[i]? = some x → wr.cell? ⟨b, o + 1 + i, none⟩ = some (.int .u8 (x.toNat : Int)) := fun i x hi => by
    have hil : i < xs.length := (List.getElem?_eq_some_iff.1 hi).1
    have := hcell (i + 1) x (by rw [List.cons_append, List.getElem?_cons_succ, List.getElem?_append_left hil]; exact hi)
    rwa [show o + (i + 1) = o + 1 + i by omega] at this
  have hrs : ∀ (i : Nat) (x : UInt8), rest[i]? = some x → wr.cell? ⟨b, o + (18) + i, none⟩ = some (.int .u8 (x.toNat : Int)) := fun i x hi => by
    have := hcell (i + (18)) x (by rw [List.getElem?_append_right (by omega), hch, Nat.add_sub_cancel]; exact hi)
    rwa [show o + (i + (18)) = o + (18) + i by omega] at this
  rw [hlen] at hlc hl
  rw [hlen]
  have HXS := Lib.hid hxs
  have HRS := Lib.hid hrs
  have HN := Lib.hid hnext
  have HO := Lib.hid hO
  have HV := Lib.hid hV
  have HX := Lib.hid hx
  have HXL := Lib.hid hxl
  generalize hm : rest.length = m at *
  have HM := Lib.hid hm
  have hcv : ∀ d : Nat, (convert 27 9 (.slice (some ⟨b, o + 1, none⟩) 17 d)).run Tryd.prog wr = .ok (.string ⟨xs.toArray⟩) wr := fun d => run_bytes_string ⟨HXL.out, .inr ⟨b, o + 1, rfl, Nat.lt_of_lt_of_le hlt hB.size, HXS.out⟩⟩ 27 9 5 Tryd.underlying27 Tryd.underlying5 Tryd.underlying9
  clear hr hcell hnext hlen hO hV hx hm hxs hrs hxl hch
  conv => arg 2; whnf
  unfold frm23
  have B1 : Below wr.heap.size wr wr := Below.refl _ _
  have HO1 := HO
  have HV1 := HV
  have HU := Lib.hid (show avIs wr.heap.size wr (.str xs) (.iface 9 (.string ⟨xs.toArray⟩)) from rfl)
  have BW := hB
  (repeat (first | (at_builtin; refine wpList_append_own _ rfl (.tmp 292) (.tmp 299) 54 rfl w.heap.size 20 i0 _ 1 16 Tryd.underlying54 hi hz0 hz1 hz2 rfl (by decide) _ j vs rfl ?own ⟨wr.heap.size, 0, none⟩ 1 1 [_] rfl rfl (by exact fun j u hj => (cell_new wr 20 _ j).trans hj) ?c2 ?c3 ?c4 ?c5 ?_) | go_values | go_skip | go_guarded | go_step | go_upon))
  case own => exact HO1.out.alloc _
  case c2 => intro u hu; simp at hu; subst hu; rfl
  case c3 => unfold maxLen; omega
  case c4 => omega
  case c5 => have := BW.size; show _ ≤ (wr.alloc _).heap.size; simp; omega
  intro v' w2 hown hgrow _
  have hV2 := areV_snoc HO1.out HX.out HV1.out HU.out hgrow
  have hB2 := (BW.alloc BW.size (.cells #[.iface 9 (.string ⟨xs.toArray⟩)] 20)).grown hgrow (by have := BW.size; show _ ≤ (wr.alloc _).heap.size; simp; omega) (fun g hg => (HO1.out.lt g hg).1)
  have HO2 := Lib.hid hown
  have HV2 := Lib.hid hV2
  have HB2 := Lib.hid hB2
  clear hown hgrow hV2 hB2
  (repeat (first | go_values | go_skip | go_guarded | go_step | go_upon))
  refine HN.out _ w2 _ (c - 18) v' _ ⟨rfl, rfl, rfl, rfl, rfl, rfl⟩ (by omega) (by omega) ?rd HB2.out HO2.out HV2.out
  case rd =>
    refine ⟨HM.out, ?_⟩
    rcases Nat.eq_zero_or_pos m with h | h
    · exact .inl (List.eq_nil_of_length_eq_zero (HM.out.trans h))
    · refine .inr ⟨b, o + (18), by rw [if_neg (by omega)], hlt, fun i x hx => ?_⟩
      refine (HB2.out.cell (p := ⟨b, o + (18) + i, none⟩) hlt).trans ((hB.cell (p := ⟨b, o + (18) + i, none⟩) hlt).symm.trans ?_)
      exact HRS.out i x hx

set_option maxRecDepth 100000 in
set_option maxHeartbeats 4000000 in
theorem round23_sa (xs : List UInt8) (n : Nat) (hn0 : 1 ≤ n) (hn1 : n ≤ 255) (hxl : xs.length = n) : Round23 (59 :: UInt8.ofNat n :: xs) (.str xs) := by
  obtain ⟨i0, hi, hz0, hz1, hz2⟩ := info_parts info20
  obtain ⟨ib, hib, hb0, hb1, hb2⟩ := info_parts info5
  intro K Q0 w wr a c j rest v vs ys s4 u hlc hc hl hk hr hB hO hx hV hnext
  obtain ⟨b, o, rfl, hlt, hcell⟩ : ∃ b o, a = some ⟨b, o, none⟩ ∧ b < w.heap.size ∧ ∀ (i : Nat) (x : UInt8), ((59 :: UInt8.ofNat n :: xs) ++ rest)[i]? = some x → wr.cell? ⟨b, o + i, none⟩ = some (.int .u8 (x.toNat : Int)) := by
    rcases hr.2 with h | h
    · cases h
    · exact h
  have hc0 : wr.cell? ⟨b, o, none⟩ = some (.int .u8 59) := hcell 0 59 rfl
  have hc1 : wr.cell? ⟨b, o + 1, none⟩ = some (.int .u8 (n : Int)) := by
    have := hcell 1 (UInt8.ofNat n) rfl
    rwa [u8_of n (by omega)] at this
  have hlen : ((59 :: UInt8.ofNat n :: xs) ++ rest).length = rest.length + (2 + n) := by simp only [List.length_append, List.length_cons]; omega
  have hch : (59 :: UInt8.ofNat n :: xs).length = 2 + n := by simp only [List.length_cons]; omega
  have hxs : ∀ (i : Nat) (x : UInt8), xs[i]? = some x → wr.cell? ⟨b, o + 2 + i, none⟩ = some (.int .u8 (x.toNat : Int)) := fun i x hi => by
    have hil : i < xs.length := (List.getElem?_eq_some_iff.1 hi).1
    have := hcell (i + 2) x (by rw [List.cons_append, List.cons_append, List.getElem?_cons_succ, List.getElem?_cons_succ, List.getElem?_append_left hil]; exact hi)
    rwa [show o + (i + 2) = o + 2 + i by omega] at this
  have hrs : ∀ (i : Nat) (x : UInt8), rest[i]? = some x → wr.cell? ⟨b, o + (2 + n) + i, none⟩ = some (.int .u8 (x.toNat : Int)) := fun i x hi => by
    have := hcell (i + (2 + n)) x (by rw [List.getElem?_append_right (by omega), hch, Nat.add_sub_cancel]; exact hi)
    rwa [show o + (i + (2 + n)) = o + (2 + n) + i by omega] at this
  rw [hlen] at hlc hl
  rw [hlen]
  have HXS := Lib.hid hxs
  have HRS := Lib.hid hrs
  have HN := Lib.hid hnext
  have HO := Lib.hid hO
  have HV := Lib.hid hV
  have HX := Lib.hid hx
  have HXL := Lib.hid hxl
  generalize hm : rest.length = m at *
  have HM := Lib.hid hm
  have hcv : ∀ d : Nat, (convert 27 9 (.slice (some ⟨b, o + 2, none⟩) n d)).run Tryd.prog wr = .ok (.string ⟨xs.toArray⟩) wr := fun d => run_bytes_string ⟨HXL.out, .inr ⟨b, o + 2, rfl, Nat.lt_of_lt_of_le hlt hB.size, HXS.out⟩⟩ 27 9 5 Tryd.underlying27 Tryd.underlying5 Tryd.underlying9
  clear hr hcell hnext hlen hO hV hx hm hxs hrs hxl hch
  conv => arg 2; whnf
  unfold frm23
  have B1 : Below wr.heap.size wr wr := Below.refl _ _
  have HO1 := HO
  have HV1 := HV
  have HU := Lib.hid (show avIs wr.heap.size wr (.str xs) (.iface 9 (.string ⟨xs.toArray⟩)) from rfl)
  have BW := hB
  (repeat (first | (at_builtin; refine wpList_append_own _ rfl (.tmp 320) (.tmp 326) 54 rfl w.heap.size 20 i0 _ 1 16 Tryd.underlying54 hi hz0 hz1 hz2 rfl (by decide) _ j vs rfl ?own ⟨wr.heap.size, 0, none⟩ 1 1 [_] rfl rfl (by exact fun j u hj => (cell_new wr 20 _ j).trans hj) ?c2 ?c3 ?c4 ?c5 ?_) | go_values | go_skip | go_guarded | go_step | go_upon))
  case own => exact HO1.out.alloc _
  case c2 => intro u hu; simp at hu; subst hu; rfl
  case c3 => unfold maxLen; omega
  case c4 => omega
  case c5 => have := BW.size; show _ ≤ (wr.alloc _).heap.size; simp; omega
  intro v' w2 hown hgrow _
  have hV2 := areV_snoc HO1.out HX.out HV1.out HU.out hgrow
  have hB2 := (BW.alloc BW.size (.cells #[.iface 9 (.string ⟨xs.toArray⟩)] 20)).grown hgrow (by have := BW.size; show _ ≤ (wr.alloc _).heap.size; simp; omega) (fun g hg => (HO1.out.lt g hg).1)
  have HO2 := Lib.hid hown
  have HV2 := Lib.hid hV2
  have HB2 := Lib.hid hB2
  clear hown hgrow hV2 hB2
  (repeat (first | go_values | go_skip | go_guarded | go_step | go_upon))
  rw [show m + (2 + n) - 2 - n = m by omega]
  refine HN.out _ w2 _ (c - 2 - n) v' _ ⟨rfl, rfl, rfl, rfl, rfl, rfl⟩ (by omega) (by omega) ?rd HB2.out HO2.out HV2.out
  case rd =>
    refine ⟨HM.out, ?_⟩
    rcases Nat.eq_zero_or_pos m with h | h
    · exact .inl (List.eq_nil_of_length_eq_zero (HM.out.trans h))
    · refine .inr ⟨b, o + (2 + n), by rw [if_neg (by omega)]; first | done | (simp; done) | (simp; omega), hlt, fun i x hx => ?_⟩
      refine (HB2.out.cell (p := ⟨b, o + (2 + n) + i, none⟩) hlt).trans ((hB.cell (p := ⟨b, o + (2 + n) + i, none⟩) hlt).symm.trans ?_)
      exact HRS.out i x hx

set_option maxRecDepth 100000 in
set_option maxHeartbeats 4000000 in
theorem round23_sz (xs : List UInt8) (n : Nat) (hn0 : 1 ≤ n) (hn1 : n ≤ 65535) (hxl : xs.length = n) : Round23 (60 :: (be 2 ((n : Int)) ++ xs)) (.str xs) := by
  obtain ⟨i0, hi, hz0, hz1, hz2⟩ := info_parts info20
  obtain ⟨ib, hib, hb0, hb1, hb2⟩ := info_parts info5
  intro K Q0 w wr a c j rest v vs ys s4 u hlc hc hl hk hr hB hO hx hV hnext
  obtain ⟨b, o, rfl, hlt, hcell⟩ : ∃ b o, a = some ⟨b, o, none⟩ ∧ b < w.heap.size ∧ ∀ (i : Nat) (x : UInt8), ((60 :: (be 2 ((n : Int)) ++ xs)) ++ rest)[i]? = some x → wr.cell? ⟨b, o + i, none⟩ = some (.int .u8 (x.toNat : Int)) := by
    rcases hr.2 with h | h
    · cases h
    · exact h
  have hc0 : wr.cell? ⟨b, o, none⟩ = some (.int .u8 60) := hcell 0 60 rfl
  obtain ⟨p, q, hp, hq, hpq⟩ : ∃ p q : Nat, p < 256 ∧ q < 256 ∧ (n : Int) = p * 256 + q := ⟨(((n : Int)) / 256).toNat, (((n : Int)) % 256).toNat, by omega, by omega, by omega⟩
  have hc1 : wr.cell? ⟨b, o + 1, none⟩ = some (.int .u8 (p : Int)) := by
    have := hcell 1 (UInt8.ofNat ((((n : Int)) / 256 % 256).toNat)) rfl
    rwa [u8z, show ((n : Int)) / 256 % 256 = (p : Int) by omega] at this
  have hc2 : wr.cell? ⟨b, o + 2, none⟩ = some (.int .u8 (q : Int)) := by
    have := hcell 2 (UInt8.ofNat ((((n : Int)) % 256).toNat)) rfl
    rwa [u8z, show ((n : Int)) % 256 = (q : Int) by omega] at this
  have hor := or256i p q (by omega) hq
  have hpn : (p : Int) * 256 + q = n := by omega
  clear hpq
  have hlen : ((60 :: (be 2 ((n : Int)) ++ xs)) ++ rest).length = rest.length + (3 + n) := by simp only [List.length_append, List.length_cons, be_length]; omega
  have hch : (60 :: (be 2 ((n : Int)) ++ xs)).length = 3 + n := by simp only [List.length_append, List.length_cons, be_length]; omega
  have hxs : ∀ (i : Nat) (x : UInt8), xs[i]? = some x → wr.cell? ⟨b, o + 3 + i, none⟩ = some (.int .u8 (x.toNat : Int)) := fun i x hi => by
    have hil : i < xs.length := (List.getElem?_eq_some_iff.1 hi).1
    have := hcell (i + 3) x (by simp only [be, List.nil_append, List.cons_append, List.getElem?_cons_succ]; rw [List.getElem?_append_left hil]; exact hi)
    rwa [show o + (i + 3) = o + 3 + i by omega] at this
  have hrs : ∀ (i : Nat) (x : UInt8), rest[i]? = some x → wr.cell? ⟨b, o + (3 + n) + i, none⟩ = some (.int .u8 (x.toNat : Int)) := fun i x hi => by
    have := hcell (i + (3 + n)) x (by rw [List.getElem?_append_right (by omega), hch, Nat.add_sub_cancel]; exact hi)
    rwa [show o + (i + (3 + n)) = o + (3 + n) + i by omega] at this
  rw [hlen] at hlc hl
  rw [hlen]
  have HXS := Lib.hid hxs
  have HRS := Lib.hid hrs
  have HN := Lib.hid hnext
  have HO := Lib.hid hO
  have HV := Lib.hid hV
  have HX := Lib.hid hx
  have HXL := Lib.hid hxl
  generalize hm : rest.length = m at *
  have HM := Lib.hid hm
  clear hr hcell hnext hlen hO hV hx hm hxs hrs hxl hch
  conv => arg 2; whnf
  unfold frm23
  (repeat (first | go_values | go_skip | go_guarded | go_step | go_upon))
  go_quiet (fail)
  have BQ := below_drewN (Below.refl wr.heap.size wr) nq
  have HO := Lib.hid (ownsRow_below HO.out BQ (Nat.le_refl _))
  have HV := Lib.hid (HV.out.below BQ (Nat.le_refl _) (Nat.le_refl _) BQ.size)
  have HXS := Lib.hid (fun i x h => (BQ.cell (p := ⟨b, o + 3 + i, none⟩) (Nat.lt_of_lt_of_le hlt hB.size)).trans (HXS.out i x h))
  have HRS := Lib.hid (fun i x h => (BQ.cell (p := ⟨b, o + (3 + n) + i, none⟩) (Nat.lt_of_lt_of_le hlt hB.size)).trans (HRS.out i x h))
  have hB := hB.trans (BQ.mono hB.size)
  clear BQ hc0 hc1 hc2 hor
  generalize wr.drewN nq = wq at *
  have hcv : ∀ d : Nat, (convert 27 9 (.slice (some ⟨b, o + 3, none⟩) n d)).run Tryd.prog wq = .ok (.string ⟨xs.toArray⟩) wq := fun d => run_bytes_string ⟨HXL.out, .inr ⟨b, o + 3, rfl, Nat.lt_of_lt_of_le hlt hB.size, HXS.out⟩⟩ 27 9 5 Tryd.underlying27 Tryd.underlying5 Tryd.underlying9
  have B1 : Below wq.heap.size wq wq := Below.refl _ _
  have HO1 := HO
  have HV1 := HV
  have HU := Lib.hid (show avIs wq.heap.size wq (.str xs) (.iface 9 (.string ⟨xs.toArray⟩)) from rfl)
  have BW := hB
  (repeat (first | (at_builtin; refine wpList_append_own _ rfl (.tmp 352) (.tmp 358) 54 rfl w.heap.size 20 i0 _ 1 16 Tryd.underlying54 hi hz0 hz1 hz2 rfl (by decide) _ j vs rfl ?own ⟨wq.heap.size, 0, none⟩ 1 1 [_] rfl rfl (by exact fun j u hj => (cell_new wq 20 _ j).trans hj) ?c2 ?c3 ?c4 ?c5 ?_) | go_values | go_skip | go_guarded | go_step | go_upon))
  case own => exact HO1.out.alloc _
  case c2 => intro u hu; simp at hu; subst hu; rfl
  case c3 => unfold maxLen; omega
  case c4 => omega
  case c5 => have := BW.size; show _ ≤ (wq.alloc _).heap.size; simp; omega
  intro v' w2 hown hgrow _
  have hV2 := areV_snoc HO1.out HX.out HV1.out HU.out hgrow
  have hB2 := (BW.alloc BW.size (.cells #[.iface 9 (.string ⟨xs.toArray⟩)] 20)).grown hgrow (by have := BW.size; show _ ≤ (wq.alloc _).heap.size; simp; omega) (fun g hg => (HO1.out.lt g hg).1)
  have HO2 := Lib.hid hown
  have HV2 := Lib.hid hV2
  have HB2 := Lib.hid hB2
  clear hown hgrow hV2 hB2
  (repeat (first | go_values | go_skip | go_guarded | go_step | go_upon))
  rw [show m + (3 + n) - 3 - n = m by omega]
  refine HN.out _ w2 _ (c - 3 - n) v' _ ⟨rfl, rfl, rfl, rfl, rfl, rfl⟩ (by omega) (by omega) ?rd HB2.out HO2.out HV2.out
  case rd =>
    refine ⟨HM.out, ?_⟩
    rcases Nat.eq_zero_or_pos m with h | h
    · exact .inl (List.eq_nil_of_length_eq_zero (HM.out.trans h))
    · refine .inr ⟨b, o + (3 + n), by rw [if_neg (by omega)]; first | done | (simp; done) | (simp; omega), hlt, fun i x hx => ?_⟩
      refine (HB2.out.cell (p := ⟨b, o + (3 + n) + i, none⟩) hlt).trans ((hB.cell (p := ⟨b, o + (3 + n) + i, none⟩) hlt).symm.trans ?_)
      exact HRS.out i x hx

end Go.Proofs.YtaoonpncnahhgaaDoor
