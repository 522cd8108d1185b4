/-
  The rounds of DecodeScalars over texts: tags 41, 42, 43, 44, 45, 46, 47, 48, 49, 50.
-/
import Derived.Test.YtaoonpncnahhgaaDoorD11
namespace Go.Proofs.YtaoonpncnahhgaaDoor
open Go.RowKit

set_option maxRecDepth 100000 in
set_option maxHeartbeats 4000000 in
theorem round23_s0 (xs : List UInt8) (hxl : xs.length = 0) : Round23 (41 :: xs) (.str xs) := by
  obtain ⟨i0, hi, hz0, hz1, hz2⟩ := info_parts info20
  obtain ⟨ib, hib, hb0, hb1, hb2⟩ := info_parts info5
  intro K Q0 w wr a c j rest v vs ys s4 u hlc hc hl hk hr hB hO hx hV hnext
  obtain ⟨b, o, rfl, hlt, hcell⟩ : ∃ b o, a = some ⟨b, o, none⟩ ∧ b < w.heap.size ∧ ∀ (i : Nat) (x : UInt8), ((41 :: xs) ++ rest)[i]? = some x → wr.cell? ⟨b, o + i, none⟩ = some (.int .u8 (x.toNat : Int)) := by
    rcases hr.2 with h | h
    · cases h
    · exact h
  have hc0 : wr.cell? ⟨b, o, none⟩ = some (.int .u8 41) := hcell 0 41 rfl
  have hlen : ((41 :: xs) ++ rest).length = rest.length + (1) := by simp only [List.length_append, List.length_cons]; omega
  have hch : (41 :: xs).length = 1 := by simp only [List.length_cons]; omega
  have hxs : ∀ (i : Nat) (x : UInt8), xs[i]? = some x → wr.cell? ⟨b, o + 1 + i, none⟩ = some (.int .u8 (x.toNat : Int)) := fun i x hi => by
    have hil : i < xs.length := (List.getElem?_eq_some_iff.1 hi).1
    have := hcell (i + 1) x (by rw [List.cons_append, List.getElem?_cons_succ, List.getElem?_append_left hil]; exact hi)
    rwa [show o + (i + 1) = o + 1 + i by omega] at this
  have hrs : ∀ (i : Nat) (x : UInt8), rest[i]? = some x → wr.cell? ⟨b, o + (1) + i, none⟩ = some (.int .u8 (x.toNat : Int)) := fun i x hi => by
    have := hcell (i + (1)) x (by rw [List.getElem?_append_right (by omega), hch, Nat.add_sub_cancel]; exact hi)
    rwa [show o + (i + (1)) = o + (1) + i by omega] at this
  rw [hlen] at hlc hl
  rw [hlen]
  have HXS := Lib.hid hxs
  have HRS := Lib.hid hrs
  have HN := Lib.hid hnext
  have HO := Lib.hid hO
  have HV := Lib.hid hV
  have HX := Lib.hid hx
  have HXL := Lib.hid hxl
  generalize hm : rest.length = m at *
  have HM := Lib.hid hm
  have hcv : ∀ (a : Option Addr) (d : Nat), (convert 27 9 (.slice a 0 d)).run Tryd.prog wr = .ok (.string ⟨xs.toArray⟩) wr := fun a d => run_bytes_string (B := 0) ⟨hxl, .inl (List.eq_nil_of_length_eq_zero hxl)⟩ 27 9 5 Tryd.underlying27 Tryd.underlying5 Tryd.underlying9
  clear hr hcell hnext hlen hO hV hx hm hxs hrs hxl hch
  conv => arg 2; whnf
  unfold frm23
  have B1 : Below wr.heap.size wr wr := Below.refl _ _
  have HO1 := HO
  have HV1 := HV
  have HU := Lib.hid (show avIs wr.heap.size wr (.str xs) (.iface 9 (.string ⟨xs.toArray⟩)) from rfl)
  have BW := hB
  (repeat (first | (at_builtin; refine wpList_append_own _ rfl (.tmp 292) (.tmp 299) 54 rfl w.heap.size 20 i0 _ 1 16 Tryd.underlying54 hi hz0 hz1 hz2 rfl (by decide) _ j vs rfl ?own ⟨wr.heap.size, 0, none⟩ 1 1 [_] rfl rfl (by exact fun j u hj => (cell_new wr 20 _ j).trans hj) ?c2 ?c3 ?c4 ?c5 ?_) | go_values | go_skip | go_guarded | go_step | go_upon))
  case own => exact HO1.out.alloc _
  case c2 => intro u hu; simp at hu; subst hu; rfl
  case c3 => unfold maxLen; omega
  case c4 => omega
  case c5 => have := BW.size; show _ ≤ (wr.alloc _).heap.size; simp; omega
  intro v' w2 hown hgrow _
  have hV2 := areV_snoc HO1.out HX.out HV1.out HU.out hgrow
  have hB2 := (BW.alloc BW.size (.cells #[.iface 9 (.string ⟨xs.toArray⟩)] 20)).grown hgrow (by have := BW.size; show _ ≤ (wr.alloc _).heap.size; simp; omega) (fun g hg => (HO1.out.lt g hg).1)
  have HO2 := Lib.hid hown
  have HV2 := Lib.hid hV2
  have HB2 := Lib.hid hB2
  clear hown hgrow hV2 hB2
  (repeat (first | go_values | go_skip | go_guarded | go_step | go_upon))
  refine HN.out _ w2 _ (c - 1) v' _ ⟨rfl, rfl, rfl, rfl, rfl, rfl⟩ (by omega) (by omega) ?rd HB2.out HO2.out HV2.out
  case rd =>
    refine ⟨HM.out, ?_⟩
    rcases Nat.eq_zero_or_pos m with h | h
    · exact .inl (List.eq_nil_of_length_eq_zero (HM.out.trans h))
    · refine .inr ⟨b, o + (1), by rw [if_neg (by omega)], hlt, fun i x hx => ?_⟩
      refine (HB2.out.cell (p := ⟨b, o + (1) + i, none⟩) hlt).trans ((hB.cell (p := ⟨b, o + (1) + i, none⟩) hlt).symm.trans ?_)
      exact HRS.out i x hx

set_option maxRecDepth 100000 in
set_option maxHeartbeats 4000000 in
theorem round23_s1 (xs : List UInt8) (hxl : xs.length = 1) : Round23 (42 :: xs) (.str xs) := by
  obtain ⟨i0, hi, hz0, hz1, hz2⟩ := info_parts info20
  obtain ⟨ib, hib, hb0, hb1, hb2⟩ := info_parts info5
  intro K Q0 w wr a c j rest v vs ys s4 u hlc hc hl hk hr hB hO hx hV hnext
  obtain ⟨b, o, rfl, hlt, hcell⟩ : ∃ b o, a = some ⟨b, o, none⟩ ∧ b < w.heap.size ∧ ∀ (i : Nat) (x : UInt8), ((42 :: xs) ++ rest)[i]? = some x → wr.cell? ⟨b, o + i, none⟩ = some (.int .u8 (x.toNat : Int)) := by
    rcases hr.2 with h | h
    · cases h
    · exact h
  have hc0 : wr.cell? ⟨b, o, none⟩ = some (.int .u8 42) := hcell 0 42 rfl
  have hlen : ((42 :: xs) ++ rest).length = rest.length + (2) := by simp only [List.length_append, List.length_cons]; omega
  have hch : (42 :: xs).length = 2 := by simp only [List.length_cons]; omega
  have hxs : ∀ (i : Nat) (x : UInt8), xs[i]? = some x → wr.cell? ⟨b, o + 1 + i, none⟩ = some (.int .u8 (x.toNat : Int)) := fun i x hi => by
    have hil : i < xs.length := (List.getElem?_eq_some_iff.1 hi).1
    have := hcell (i + 1) x (by rw [List.cons_append, List.getElem?_cons_succ, List.getElem?_append_left hil]; exact hi)
    rwa [show o + (i + 1) = o + 1 + i by omega] at this
  have hrs : ∀ (i : Nat) (x : UInt8), rest[i]? = some x → wr.cell? ⟨b, o + (2) + i, none⟩ = some (.int .u8 (x.toNat : Int)) := fun i x hi => by
    have := hcell (i + (2)) x (by rw [List.getElem?_append_right (by omega), hch, Nat.add_sub_cancel]; exact hi)
    rwa [show o + (i + (2)) = o + (2) + i by omega] at this
  rw [hlen] at hlc hl
  rw [hlen]
  have HXS := Lib.hid hxs
  have HRS := Lib.hid hrs
  have HN := Lib.hid hnext
  have HO := Lib.hid hO
  have HV := Lib.hid hV
  have HX := Lib.hid hx
  have HXL := Lib.hid hxl
  generalize hm : rest.length = m at *
  have HM := Lib.hid hm
  have hcv : ∀ d : Nat, (convert 27 9 (.slice (some ⟨b, o + 1, none⟩) 1 d)).run Tryd.prog wr = .ok (.string ⟨xs.toArray⟩) wr := fun d => run_bytes_string ⟨HXL.out, .inr ⟨b, o + 1, rfl, Nat.lt_of_lt_of_le hlt hB.size, HXS.out⟩⟩ 27 9 5 Tryd.underlying27 Tryd.underlying5 Tryd.underlying9
  clear hr hcell hnext hlen hO hV hx hm hxs hrs hxl hch
  conv => arg 2; whnf
  unfold frm23
  have B1 : Below wr.heap.size wr wr := Below.refl _ _
  have HO1 := HO
  have HV1 := HV
  have HU := Lib.hid (show avIs wr.heap.size wr (.str xs) (.iface 9 (.string ⟨xs.toArray⟩)) from rfl)
  have BW := hB
  (repeat (first | (at_builtin; refine wpList_append_own _ rfl (.tmp 292) (.tmp 299) 54 rfl w.heap.size 20 i0 _ 1 16 Tryd.underlying54 hi hz0 hz1 hz2 rfl (by decide) _ j vs rfl ?own ⟨wr.heap.size, 0, none⟩ 1 1 [_] rfl rfl (by exact fun j u hj => (cell_new wr 20 _ j).trans hj) ?c2 ?c3 ?c4 ?c5 ?_) | go_values | go_skip | go_guarded | go_step | go_upon))
  case own => exact HO1.out.alloc _
  case c2 => intro u hu; simp at hu; subst hu; rfl
  case c3 => unfold maxLen; omega
  case c4 => omega
  case c5 => have := BW.size; show _ ≤ (wr.alloc _).heap.size; simp; omega
  intro v' w2 hown hgrow _
  have hV2 := areV_snoc HO1.out HX.out HV1.out HU.out hgrow
  have hB2 := (BW.alloc BW.size (.cells #[.iface 9 (.string ⟨xs.toArray⟩)] 20)).grown hgrow (by have := BW.size; show _ ≤ (wr.alloc _).heap.size; simp; omega) (fun g hg => (HO1.out.lt g hg).1)
  have HO2 := Lib.hid hown
  have HV2 := Lib.hid hV2
  have HB2 := Lib.hid hB2
  clear hown hgrow hV2 hB2
  (repeat (first | go_values | go_skip | go_guarded | go_step | go_upon))
  refine HN.out _ w2 _ (c - 2) v' _ ⟨rfl, rfl, rfl, rfl, rfl, rfl⟩ (by omega) (by omega) ?rd HB2.out HO2.out HV2.out
  case rd =>
    refine ⟨HM.out, ?_⟩
    rcases Nat.eq_zero_or_pos m with h | h
    · exact .inl (List.eq_nil_of_length_eq_zero (HM.out.trans h))
    · refine .inr ⟨b, o + (2), by rw [if_neg (by omega)], hlt, fun i x hx => ?_⟩
      refine (HB2.out.cell (p := ⟨b, o + (2) + i, none⟩) hlt).trans ((hB.cell (p := ⟨b, o + (2) + i, none⟩) hlt).symm.trans ?_)
      exact HRS.out i x hx

set_option maxRecDepth 100000 in
set_option maxHeartbeats 4000000 in
theorem round23_s2 (xs : List UInt8) (hxl : xs.length = 2) : Round23 (43 :: xs) (.str xs) := by
  obtain ⟨i0, hi, hz0, hz1, hz2⟩ := info_parts info20
  obtain ⟨ib, hib, hb0, hb1, hb2⟩ := info_parts info5
  intro K Q0 w wr a c j rest v vs ys s4 u hlc hc hl hk hr hB hO hx hV hnext
  obtain ⟨b, o, rfl, hlt, hcell⟩ : ∃ b o, a = some ⟨b, o, none⟩ ∧ b < w.heap.size ∧ ∀ (i : Nat) (x : UInt8), ((43 :: xs) ++ rest)[i]? = some x → wr.cell? ⟨b, o + i, none⟩ = some (.int .u8 (x.toNat : Int)) := by
    rcases hr.2 with h | h
    · cases h
    · exact h
  have hc0 : wr.cell? ⟨b, o, none⟩ = some (.int .u8 43) := hcell 0 43 rfl
  have hlen : ((43 :: xs) ++ rest).length = rest.length + (3) := by simp only [List.length_append, List.length_cons]; omega
  have hch : (43 :: xs).length = 3 := by simp only [List.length_cons]; omega
  have hxs : ∀ (i : Nat) (x : UInt8), xs[i]? = some x → wr.cell? ⟨b, o + 1 + i, none⟩ = some (.int .u8 (x.toNat : Int)) := fun i x hi => by
    have hil : i < xs.length := (List.getElem?_eq_some_iff.1 hi).1
    have := hcell (i + 1) x (by rw [List.cons_append, List.getElem?_cons_succ, List.getElem?_append_left hil]; exact hi)
    rwa [show o + (i + 1) = o + 1 + i by omega] at this
  have hrs : ∀ (i : Nat) (x : UInt8), rest[i]? = some x → wr.cell? ⟨b, o + (3) + i, none⟩ = some (.int .u8 (x.toNat : Int)) := fun i x hi => by
    have := hcell (i + (3)) x (by rw [List.getElem?_append_right (by omega), hch, Nat.add_sub_cancel]; exact hi)
    rwa [show o + (i + (3)) = o + (3) + i by omega] at this
  rw [hlen] at hlc hl
  rw [hlen]
  have HXS := Lib.hid hxs
  have HRS := Lib.hid hrs
  have HN := Lib.hid hnext
  have HO := Lib.hid hO
  have HV := Lib.hid hV
  have HX := Lib.hid hx
  have HXL := Lib.hid hxl
  generalize hm : rest.length = m at *
  have HM := Lib.hid hm
  have hcv : ∀ d : Nat, (convert 27 9 (.slice (some ⟨b, o + 1, none⟩) 2 d)).run Tryd.prog wr = .ok (.string ⟨xs.toArray⟩) wr := fun d => run_bytes_string ⟨HXL.out, .inr ⟨b, o + 1, rfl, Nat.lt_of_lt_of_le hlt hB.size, HXS.out⟩⟩ 27 9 5 Tryd.underlying27 Tryd.underlying5 Tryd.underlying9
  clear hr hcell hnext hlen hO hV hx hm hxs hrs hxl hch
  conv => arg 2; whnf
  unfold frm23
  have B1 : Below wr.heap.size wr wr := Below.refl _ _
  have HO1 := HO
  have HV1 := HV
  have HU := Lib.hid (show avIs wr.heap.size wr (.str xs) (.iface 9 (.string ⟨xs.toArray⟩)) from rfl)
  have BW := hB
  (repeat (first | (at_builtin; refine wpList_append_own _ rfl (.tmp 292) (.tmp 299) 54 rfl w.heap.size 20 i0 _ 1 16 Tryd.underlying54 hi hz0 hz1 hz2 rfl (by decide) _ j vs rfl ?own ⟨wr.heap.size, 0, none⟩ 1 1 [_] rfl rfl (by exact fun j u hj => (cell_new wr 20 _ j).trans hj) ?c2 ?c3 ?c4 ?c5 ?_) | go_values | go_skip | go_guarded | go_step | go_upon))
  case own => exact HO1.out.alloc _
  case c2 => intro u hu; simp at hu; subst hu; rfl
  case c3 => unfold maxLen; omega
  case c4 => omega
  case c5 => have := BW.size; show _ ≤ (wr.alloc _).heap.size; simp; omega
  intro v' w2 hown hgrow _
  have hV2 := areV_snoc HO1.out HX.out HV1.out HU.out hgrow
  have hB2 := (BW.alloc BW.size (.cells #[.iface 9 (.string ⟨xs.toArray⟩)] 20)).grown hgrow (by have := BW.size; show _ ≤ (wr.alloc _).heap.size; simp; omega) (fun g hg => (HO1.out.lt g hg).1)
  have HO2 := Lib.hid hown
  have HV2 := Lib.hid hV2
  have HB2 := Lib.hid hB2
  clear hown hgrow hV2 hB2
  (repeat (first | go_values | go_skip | go_guarded | go_step | go_upon))
  refine HN.out _ w2 _ (c - 3) v' _ ⟨rfl, rfl, rfl, rfl, rfl, rfl⟩ (by omega) (by omega) ?rd HB2.out HO2.out HV2.out
  case rd =>
    refine ⟨HM.out, ?_⟩
    rcases Nat.eq_zero_or_pos m with h | h
    · exact .inl (List.eq_nil_of_length_eq_zero (HM.out.trans h))
    · refine .inr ⟨b, o + (3), by rw [if_neg (by omega)], hlt, fun i x hx => ?_⟩
      refine (HB2.out.cell (p := ⟨b, o + (3) + i, none⟩) hlt).trans ((hB.cell (p := ⟨b, o + (3) + i, none⟩) hlt).symm.trans ?_)
      exact HRS.out i x hx

set_option maxRecDepth 100000 in
set_option maxHeartbeats 4000000 in
theorem round23_s3 (xs : List UInt8) (hxl : xs.length = 3) : Round23 (44 :: xs) (.str xs) := by
  obtain ⟨i0, hi, hz0, hz1, hz2⟩ := info_parts info20
  obtain ⟨ib, hib, hb0, hb1, hb2⟩ := info_parts info5
  intro K Q0 w wr a c j rest v vs ys s4 u hlc hc hl hk hr hB hO hx hV hnext
  obtain ⟨b, o, rfl, hlt, hcell⟩ : ∃ b o, a = some ⟨b, o, none⟩ ∧ b < w.heap.size ∧ ∀ (i : Nat) (x : UInt8), ((44 :: xs) ++ rest)[i]? = some x → wr.cell? ⟨b, o + i, none⟩ = some (.int .u8 (x.toNat : Int)) := by
    rcases hr.2 with h | h
    · cases h
    · exact h
  have hc0 : wr.cell? ⟨b, o, none⟩ = some (.int .u8 44) := hcell 0 44 rfl
  have hlen : ((44 :: xs) ++ rest).length = rest.length + (4) := by simp only [List.length_append, List.length_cons]; omega
  have hch : (44 :: xs).length = 4 := by simp only [List.length_cons]; omega
  have hxs : ∀ (i : Nat) (x : UInt8), xs[i]? = some x → wr.cell? ⟨b, o + 1 + i, none⟩ = some (.int .u8 (x.toNat : Int)) := fun i x hi => by
    have hil : i < xs.length := (List.getElem?_eq_some_iff.1 hi).1
    have := hcell (i + 1) x (by rw [List.cons_append, List.getElem?_cons_succ, List.getElem?_append_left hil]; exact hi)
    rwa [show o + (i + 1) = o + 1 + i by omega] at this
  have hrs : ∀ (i : Nat) (x : UInt8), rest[i]? = some x → wr.cell? ⟨b, o + (4) + i, none⟩ = some (.int .u8 (x.toNat : Int)) := fun i x hi => by
    have := hcell (i + (4)) x (by rw [List.getElem?_append_right (by omega), hch, Nat.add_sub_cancel]; exact hi)
    rwa [show o + (i + (4)) = o + (4) + i by omega] at this
  rw [hlen] at hlc hl
  rw [hlen]
  have HXS := Lib.hid hxs
  have HRS := Lib.hid hrs
  have HN := Lib.hid hnext
  have HO := Lib.hid hO
  have HV := Lib.hid hV
  have HX := Lib.hid hx
  have HXL := Lib.hid hxl
  generalize hm : rest.length = m at *
  have HM := Lib.hid hm
  have hcv : ∀ d : Nat, (convert 27 9 (.slice (some ⟨b, o + 1, none⟩) 3 d)).run Tryd.prog wr = .ok (.string ⟨xs.toArray⟩) wr := fun d => run_bytes_string ⟨HXL.out, .inr ⟨b, o + 1, rfl, Nat.lt_of_lt_of_le hlt hB.size, HXS.out⟩⟩ 27 9 5 Tryd.underlying27 Tryd.underlying5 Tryd.underlying9
  clear hr hcell hnext hlen hO hV hx hm hxs hrs hxl hch
  conv => arg 2; whnf
  unfold frm23
  have B1 : Below wr.heap.size wr wr := Below.refl _ _
  have HO1 := HO
  have HV1 := HV
  have HU := Lib.hid (show avIs wr.heap.size wr (.str xs) (.iface 9 (.string ⟨xs.toArray⟩)) from rfl)
  have BW := hB
  (repeat (first | (at_builtin; refine wpList_append_own _ rfl (.tmp 292) (.tmp 299) 54 rfl w.heap.size 20 i0 _ 1 16 Tryd.underlying54 hi hz0 hz1 hz2 rfl (by decide) _ j vs rfl ?own ⟨wr.heap.size, 0, none⟩ 1 1 [_] rfl rfl (by exact fun j u hj => (cell_new wr 20 _ j).trans hj) ?c2 ?c3 ?c4 ?c5 ?_) | go_values | go_skip | go_guarded | go_step | go_upon))
  case own => exact HO1.out.alloc _
  case c2 => intro u hu; simp at hu; subst hu; rfl
  case c3 => unfold maxLen; omega
  case c4 => omega
  case c5 => have := BW.size; show _ ≤ (wr.alloc _).heap.size; simp; omega
  intro v' w2 hown hgrow _
  have hV2 := areV_snoc HO1.out HX.out HV1.out HU.out hgrow
  have hB2 := (BW.alloc BW.size (.cells #[.iface 9 (.string ⟨xs.toArray⟩)] 20)).grown hgrow (by have := BW.size; show _ ≤ (wr.alloc _).heap.size; simp; omega) (fun g hg => (HO1.out.lt g hg).1)
  have HO2 := Lib.hid hown
  have HV2 := Lib.hid hV2
  have HB2 := Lib.hid hB2
  clear hown hgrow hV2 hB2
  (repeat (first | go_values | go_skip | go_guarded | go_step | go_upon))
  refine HN.out _ w2 _ (c - 4) v' _ ⟨rfl, rfl, rfl, rfl, rfl, rfl⟩ (by omega) (by omega) ?rd HB2.out HO2.out HV2.out
  case rd =>
    refine ⟨HM.out, ?_⟩
    rcases Nat.eq_zero_or_pos m with h | h
    · exact .inl (List.eq_nil_of_length_eq_zero (HM.out.trans h))
    · refine .inr ⟨b, o + (4), by rw [if_neg (by omega)], hlt, fun i x hx => ?_⟩
      refine (HB2.out.cell (p := ⟨b, o + (4) + i, none⟩) hlt).trans ((hB.cell (p := ⟨b, o + (4) + i, none⟩) hlt).symm.trans ?_)
      exact HRS.out i x hx

set_option maxRecDepth 100000 in
set_option maxHeartbeats 4000000 in
theorem round23_s4 (xs : List UInt8) (hxl : xs.length = 4) : Round23 (45 :: xs) (.str xs) := by
  obtain ⟨i0, hi, hz0, hz1, hz2⟩ := info_parts info20
  obtain ⟨ib, hib, hb0, hb1, hb2⟩ := info_parts info5
  intro K Q0 w wr a c j rest v vs ys s4 u hlc hc hl hk hr hB hO hx hV hnext
  obtain ⟨b, o, rfl, hlt, hcell⟩ : ∃ b o, a = some ⟨b, o, none⟩ ∧ b < w.heap.size ∧ ∀ (i : Nat) (x : UInt8), ((45 :: xs) ++ rest)[i]? = some x → wr.cell? ⟨b, o + i, none⟩ = some (.int .u8 (x.toNat : Int)) := by
    rcases hr.2 with h | h
    · cases h
    · exact h
  have hc0 : wr.cell? ⟨b, o, none⟩ = some (.int .u8 45) := hcell 0 45 rfl
  have hlen : ((45 :: xs) ++ rest).length = rest.length + (5) := by simp only [List.length_append, List.length_cons]; omega
  have hch : (45 :: xs).length = 5 := by simp only [List.length_cons]; omega
  have hxs : ∀ (i : Nat) (x : UInt8), xs[i]? = some x → wr.cell? ⟨b, o + 1 + i, none⟩ = some (.int .u8 (x.toNat : Int)) := fun i x hi => by
    have hil : i < xs.length := (List.getElem?_eq_some_iff.1 hi).1
    have := hcell (i + 1) x (by rw [List.cons_append, List.getElem?_cons_succ, List.getElem?_append_left hil]; exact hi)
    rwa [show o + (i + 1) = o + 1 + i by omega] at this
  have hrs : ∀ (i : Nat) (x : UInt8), rest[i]? = some x → wr.cell? ⟨b, o + (5) + i, none⟩ = some (.int .u8 (x.toNat : Int)) := fun i x hi => by
    have := hcell (i + (5)) x (by rw [List.getElem?_append_right (by omega), hch, Nat.add_sub_cancel]; exact hi)
    rwa [show o + (i + (5)) = o + (5) + i by omega] at this
  rw [hlen] at hlc hl
  rw [hlen]
  have HXS := Lib.hid hxs
  have HRS := Lib.hid hrs
  have HN := Lib.hid hnext
  have HO := Lib.hid hO
  have HV := Lib.hid hV
  have HX := Lib.hid hx
  have HXL := Lib.hid hxl
  generalize hm : rest.length = m at *
  have HM := Lib.hid hm
  have hcv : ∀ d : Nat, (convert 27 9 (.slice (some ⟨b, o + 1, none⟩) 4 d)).run Tryd.prog wr = .ok (.string ⟨xs.toArray⟩) wr := fun d => run_bytes_string ⟨HXL.out, .inr ⟨b, o + 1, rfl, Nat.lt_of_lt_of_le hlt hB.size, HXS.out⟩⟩ 27 9 5 Tryd.underlying27 Tryd.underlying5 Tryd.underlying9
  clear hr hcell hnext hlen hO hV hx hm hxs hrs hxl hch
  conv => arg 2; whnf
  unfold frm23
  have B1 : Below wr.heap.size wr wr := Below.refl _ _
  have HO1 := HO
  have HV1 := HV
  have HU := Lib.hid (show avIs wr.heap.size wr (.str xs) (.iface 9 (.string ⟨xs.toArray⟩)) from rfl)
  have BW := hB
  (repeat (first | (at_builtin; refine wpList_append_own _ rfl (.tmp 292) (.tmp 299) 54 rfl w.heap.size 20 i0 _ 1 16 Tryd.underlying54 hi hz0 hz1 hz2 rfl (by decide) _ j vs rfl ?own ⟨wr.heap.size, 0, none⟩ 1 1 [_] rfl rfl (by exact fun j u hj => (cell_new wr 20 _ j).trans hj) ?c2 ?c3 ?c4 ?c5 ?_) | go_values | go_skip | go_guarded | go_step | go_upon))
  case own => exact HO1.out.alloc _
  case c2 => intro u hu; simp at hu; subst hu; rfl
  case c3 => unfold maxLen; omega
  case c4 => omega
  case c5 => have := BW.size; show _ ≤ (wr.alloc _).heap.size; simp; omega
  intro v' w2 hown hgrow _
  have hV2 := areV_snoc HO1.out HX.out HV1.out HU.out hgrow
  have hB2 := (BW.alloc BW.size (.cells #[.iface 9 (.string ⟨xs.toArray⟩)] 20)).grown hgrow (by have := BW.size; show _ ≤ (wr.alloc _).heap.size; simp; omega) (fun g hg => (HO1.out.lt g hg).1)
  have HO2 := Lib.hid hown
  have HV2 := Lib.hid hV2
  have HB2 := Lib.hid hB2
  clear hown hgrow hV2 hB2
  (repeat (first | go_values | go_skip | go_guarded | go_step | go_upon))
  refine HN.out _ w2 _ (c - 5) v' _ ⟨rfl, rfl, rfl, rfl, rfl, rfl⟩ (by omega) (by omega) ?rd HB2.out HO2.out HV2.out
  case rd =>
    refine ⟨HM.out, ?_⟩
    rcases Nat.eq_zero_or_pos m with h | h
    · exact .inl (List.eq_nil_of_length_eq_zero (HM.out.trans h))
    · refine .inr ⟨b, o + (5), by rw [if_neg (by omega)], hlt, fun i x hx => ?_⟩
      refine (HB2.out.cell (p := ⟨b, o + (5) + i, none⟩) hlt).trans ((hB.cell (p := ⟨b, o + (5) + i, none⟩) hlt).symm.trans ?_)
      exact HRS.out i x hx

set_option maxRecDepth 100000 in
set_option maxHeartbeats 4000000 in
theorem round23_s5 (xs : List UInt8) (hxl : xs.length = 5) : Round23 (46 :: xs) (.str xs) := by
  obtain ⟨i0, hi, hz0, hz1, hz2⟩ := info_parts info20
  obtain ⟨ib, hib, hb0, hb1, hb2⟩ := info_parts info5
  intro K Q0 w wr a c j rest v vs ys s4 u hlc hc hl hk hr hB hO hx hV hnext
  obtain ⟨b, o, rfl, hlt, hcell⟩ : ∃ b o, a = some ⟨b, o, none⟩ ∧ b < w.heap.size ∧ ∀ (i : Nat) (x : UInt8), ((46 :: xs) ++ rest)[i]? = some x → wr.cell? ⟨b, o + i, none⟩ = some (.int .u8 (x.toNat : Int)) := by
    rcases hr.2 with h | h
    · cases h
    · exact h
  have hc0 : wr.cell? ⟨b, o, none⟩ = some (.int .u8 46) := hcell 0 46 rfl
  have hlen : ((46 :: xs) ++ rest).length = rest.length + (6) := by simp only [List.length_append, List.length_cons]; omega
  have hch : (46 :: xs).length = 6 := by simp only [List.length_cons]; omega
  have hxs : ∀ (i : Nat) (x : UInt8), xs[i]? = some x → wr.cell? ⟨b, o + 1 + i, none⟩ = some (.int .u8 (x.toNat : Int)) := fun i x hi => by
    have hil : i < xs.length := (List.getElem?_eq_some_iff.1 hi).1
    have := hcell (i + 1) x (by rw [List.cons_append, List.getElem?_cons_succ, List.getElem?_append_left hil]; exact hi)
    rwa [show o + (i + 1) = o + 1 + i by omega] at this
  have hrs : ∀ (i : Nat) (x : UInt8), rest[i]? = some x → wr.cell? ⟨b, o + (6) + i, none⟩ = some (.int .u8 (x.toNat : Int)) := fun i x hi => by
    have := hcell (i + (6)) x (by rw [List.getElem?_append_right (by omega), hch, Nat.add_sub_cancel]; exact hi)
    rwa [show o + (i + (6)) = o + (6) + i by omega] at this
  rw [hlen] at hlc hl
  rw [hlen]
  have HXS := Lib.hid hxs
  have HRS := Lib.hid hrs
  have HN := Lib.hid hnext
  have HO := Lib.hid hO
  have HV := Lib.hid hV
  have HX := Lib.hid hx
  have HXL := Lib.hid hxl
  generalize hm : rest.length = m at *
  have HM := Lib.hid hm
  have hcv : ∀ d : Nat, (convert 27 9 (.slice (some ⟨b, o + 1, none⟩) 5 d)).run Tryd.prog wr = .ok (.string ⟨xs.toArray⟩) wr := fun d => run_bytes_string ⟨HXL.out, .inr ⟨b, o + 1, rfl, Nat.lt_of_lt_of_le hlt hB.size, HXS.out⟩⟩ 27 9 5 Tryd.underlying27 Tryd.underlying5 Tryd.underlying9
  clear hr hcell hnext hlen hO hV hx hm hxs hrs hxl hch
  conv => arg 2; whnf
  unfold frm23
  have B1 : Below wr.heap.size wr wr := Below.refl _ _
  have HO1 := HO
  have HV1 := HV
  have HU := Lib.hid (show avIs wr.heap.size wr (.str xs) (.iface 9 (.string ⟨xs.toArray⟩)) from rfl)
  have BW := hB
  (repeat (first | (at_builtin; refine wpList_append_own _ rfl (.tmp 292) (.tmp 299) 54 rfl w.heap.size 20 i0 _ 1 16 Tryd.underlying54 hi hz0 hz1 hz2 rfl (by decide) _ j vs rfl ?own ⟨wr.heap.size, 0, none⟩ 1 1 [_] rfl rfl (by exact fun j u hj => (cell_new wr 20 _ j).trans hj) ?c2 ?c3 ?c4 ?c5 ?_) | go_values | go_skip | go_guarded | go_step | go_upon))
  case own => exact HO1.out.alloc _
  case c2 => intro u hu; simp at hu; subst hu; rfl
  case c3 => unfold maxLen; omega
  case c4 => omega
  case c5 => have := BW.size; show _ ≤ (wr.alloc _).heap.size; simp; omega
  intro v' w2 hown hgrow _
  have hV2 := areV_snoc HO1.out HX.out HV1.out HU.out hgrow
  have hB2 := (BW.alloc BW.size (.cells #[.iface 9 (.string ⟨xs.toArray⟩)] 20)).grown hgrow (by have := BW.size; show _ ≤ (wr.alloc _).heap.size; simp; omega) (fun g hg => (HO1.out.lt g hg).1)
  have HO2 := Lib.hid hown
  have HV2 := Lib.hid hV2
  have HB2 := Lib.hid hB2
  clear hown hgrow hV2 hB2
  (repeat (first | go_values | go_skip | go_guarded | go_step | go_upon))
  refine HN.out _ w2 _ (c - 6) v' _ ⟨rfl, rfl, rfl, rfl, rfl, rfl⟩ (by omega) (by omega) ?rd HB2.out HO2.out HV2.out
  case rd =>
    refine ⟨HM.out, ?_⟩
    rcases Nat.eq_zero_or_pos m with h | h
    · exact .inl (List.eq_nil_of_length_eq_zero (HM.out.trans h))
    · refine .inr ⟨b, o + (6), by rw [if_neg (by omega)], hlt, fun i x hx => ?_⟩
      refine (HB2.out.cell (p := ⟨b, o + (6) + i, none⟩) hlt).trans ((hB.cell (p := ⟨b, o + (6) + i, none⟩) hlt).symm.trans ?_)
      exact HRS.out i x hx

set_option maxRecDepth 100000 in
set_option maxHeartbeats 4000000 in
theorem round23_s6 (xs : List UInt8) (hxl : xs.length = 6) : Round23 (47 :: xs) (.str xs) := by
  obtain ⟨i0, hi, hz0, hz1, hz2⟩ := info_parts info20
  obtain ⟨ib, hib, hb0, hb1, hb2⟩ := info_parts info5
  intro K Q0 w wr a c j rest v vs ys s4 u hlc hc hl hk hr hB hO hx hV hnext
  obtain ⟨b, o, rfl, hlt, hcell⟩ : ∃ b o, a = some ⟨b, o, none⟩ ∧ b < w.heap.size ∧ ∀ (i : Nat) (x : UInt8), ((47 :: xs) ++ rest)[i]? = some x → wr.cell? ⟨b, o + i, none⟩ = some (.int .u8 (x.toNat : Int)) := by
    rcases hr.2 with h | h
    · cases h
    · exact h
  have hc0 : wr.cell? ⟨b, o, none⟩ = some (.int .u8 47) := hcell 0 47 rfl
  have hlen : ((47 :: xs) ++ rest).length = rest.length + (7) := by simp only [List.length_append, List.length_cons]; omega
  have hch : (47 :: xs).length = 7 := by simp only [List.length_cons]; omega
  have hxs : ∀ (i : Nat) (x : UInt8), xs[i]? = some x → wr.cell? ⟨b, o + 1 + i, none⟩ = some (.int .u8 (x.toNat : Int)) := fun i x hi => by
    have hil : i < xs.length := (List.getElem?_eq_some_iff.1 hi).1
    have := hcell (i + 1) x (by rw [List.cons_append, List.getElem?_cons_succ, List.getElem?_append_left hil]; exact hi)
    rwa [show o + (i + 1) = o + 1 + i by omega] at this
  have hrs : ∀ (i : Nat) (x : UInt8), rest[i]? = some x → wr.cell? ⟨b, o + (7) + i, none⟩ = some (.int .u8 (x.toNat : Int)) := fun i x hi => by
    have := hcell (i + (7)) x (by rw [List.getElem?_append_right (by omega), hch, Nat.add_sub_cancel]; exact hi)
    rwa [show o + (i + (7)) = o + (7) + i by omega] at this
  rw [hlen] at hlc hl
  rw [hlen]
  have HXS := Lib.hid hxs
  have HRS := Lib.hid hrs
  have HN := Lib.hid hnext
  have HO := Lib.hid hO
  have HV := Lib.hid hV
  have HX := Lib.hid hx
  have HXL := Lib.hid hxl
  generalize hm : rest.length = m at *
  have HM := Lib.hid hm
  have hcv : ∀ d : Nat, (convert 27 9 (.slice (some ⟨b, o + 1, none⟩) 6 d)).run Tryd.prog wr = .ok (.string ⟨xs.toArray⟩) wr := fun d => run_bytes_string ⟨HXL.out, .inr ⟨b, o + 1, rfl, Nat.lt_of_lt_of_le hlt hB.size, HXS.out⟩⟩ 27 9 5 Tryd.underlying27 Tryd.underlying5 Tryd.underlying9
  clear hr hcell hnext hlen hO hV hx hm hxs hrs hxl hch
  conv => arg 2; whnf
  unfold frm23
  have B1 : Below wr.heap.size wr wr := Below.refl _ _
  have HO1 := HO
  have HV1 := HV
  have HU := Lib.hid (show avIs wr.heap.size wr (.str xs) (.iface 9 (.string ⟨xs.toArray⟩)) from rfl)
  have BW := hB
  (repeat (first | (at_builtin; refine wpList_append_own _ rfl (.tmp 292) (.tmp 299) 54 rfl w.heap.size 20 i0 _ 1 16 Tryd.underlying54 hi hz0 hz1 hz2 rfl (by decide) _ j vs rfl ?own ⟨wr.heap.size, 0, none⟩ 1 1 [_] rfl rfl (by exact fun j u hj => (cell_new wr 20 _ j).trans hj) ?c2 ?c3 ?c4 ?c5 ?_) | go_values | go_skip | go_guarded | go_step | go_upon))
  case own => exact HO1.out.alloc _
  case c2 => intro u hu; simp at hu; subst hu; rfl
  case c3 => unfold maxLen; omega
  case c4 => omega
  case c5 => have := BW.size; show _ ≤ (wr.alloc _).heap.size; simp; omega
  intro v' w2 hown hgrow _
  have hV2 := areV_snoc HO1.out HX.out HV1.out HU.out hgrow
  have hB2 := (BW.alloc BW.size (.cells #[.iface 9 (.string ⟨xs.toArray⟩)] 20)).grown hgrow (by have := BW.size; show _ ≤ (wr.alloc _).heap.size; simp; omega) (fun g hg => (HO1.out.lt g hg).1)
  have HO2 := Lib.hid hown
  have HV2 := Lib.hid hV2
  have HB2 := Lib.hid hB2
  clear hown hgrow hV2 hB2
  (repeat (first | go_values | go_skip | go_guarded | go_step | go_upon))
  refine HN.out _ w2 _ (c - 7) v' _ ⟨rfl, rfl, rfl, rfl, rfl, rfl⟩ (by omega) (by omega) ?rd HB2.out HO2.out HV2.out
  case rd =>
    refine ⟨HM.out, ?_⟩
    rcases Nat.eq_zero_or_pos m with h | h
    · exact .inl (List.eq_nil_of_length_eq_zero (HM.out.trans h))
    · refine .inr ⟨b, o + (7), by rw [if_neg (by omega)], hlt, fun i x hx => ?_⟩
      refine (HB2.out.cell (p := ⟨b, o + (7) + i, none⟩) hlt).trans ((hB.cell (p := ⟨b, o + (7) + i, none⟩) hlt).symm.trans ?_)
      exact HRS.out i x hx

set_option maxRecDepth 100000 in
set_option maxHeartbeats 4000000 in
theorem round23_s7 (xs : List UInt8) (hxl : xs.length = 7) : Round23 (48 :: xs) (.str xs) := by
  obtain ⟨i0, hi, hz0, hz1, hz2⟩ := info_parts info20
  obtain ⟨ib, hib, hb0, hb1, hb2⟩ := info_parts info5
  intro K Q0 w wr a c j rest v vs ys s4 u hlc hc hl hk hr hB hO hx hV hnext
  obtain ⟨b, o, rfl, hlt, hcell⟩ : ∃ b o, a = some ⟨b, o, none⟩ ∧ b < w.heap.size ∧ ∀ (i : Nat) (x : UInt8), ((48 :: xs) ++ rest)[i]? = some x → wr.cell? ⟨b, o + i, none⟩ = some (.int .u8 (x.toNat : Int)) := by
    rcases hr.2 with h | h
    · cases h
    · exact h
  have hc0 : wr.cell? ⟨b, o, none⟩ = some (.int .u8 48) := hcell 0 48 rfl
  have hlen : ((48 :: xs) ++ rest).length = rest.length + (8) := by simp only [List.length_append, List.length_cons]; omega
  have hch : (48 :: xs).length = 8 := by simp only [List.length_cons]; omega
  have hxs : ∀ (i : Nat) (x : UInt8), xs[i]? = some x → wr.cell? ⟨b, o + 1 + i, none⟩ = some (.int .u8 (x.toNat : Int)) := fun i x hi => by
    have hil : i < xs.length := (List.getElem?_eq_some_iff.1 hi).1
    have := hcell (i + 1) x (by rw [List.cons_append, List.getElem?_cons_succ, List.getElem?_append_left hil]; exact hi)
    rwa [show o + (i + 1) = o + 1 + i by omega] at this
  have hrs : ∀ (i : Nat) (x : UInt8), rest[i]? = some x → wr.cell? ⟨b, o + (8) + i, none⟩ = some (.int .u8 (x.toNat : Int)) := fun i x hi => by
    have := hcell (i + (8)) x (by rw [List.getElem?_append_right (by omega), hch, Nat.add_sub_cancel]; exact hi)
    rwa [show o + (i + (8)) = o + (8) + i by omega] at this
  rw [hlen] at hlc hl
  rw [hlen]
  have HXS := Lib.hid hxs
  have HRS := Lib.hid hrs
  have HN := Lib.hid hnext
  have HO := Lib.hid hO
  have HV := Lib.hid hV
  have HX := Lib.hid hx
  have HXL := Lib.hid hxl
  generalize hm : rest.length = m at *
  have HM := Lib.hid hm
  have hcv : ∀ d : Nat, (convert 27 9 (.slice (some ⟨b, o + 1, none⟩) 7 d)).run Tryd.prog wr = .ok (.string ⟨xs.toArray⟩) wr := fun d => run_bytes_string ⟨HXL.out, .inr ⟨b, o + 1, rfl, Nat.lt_of_lt_of_le hlt hB.size, HXS.out⟩⟩ 27 9 5 Tryd.underlying27 Tryd.underlying5 Tryd.underlying9
  clear hr hcell hnext hlen hO hV hx hm hxs hrs hxl hch
  conv => arg 2; whnf
  unfold frm23
  have B1 : Below wr.heap.size wr wr := Below.refl _ _
  have HO1 := HO
  have HV1 := HV
  have HU := Lib.hid (show avIs wr.heap.size wr (.str xs) (.iface 9 (.string ⟨xs.toArray⟩)) from rfl)
  have BW := hB
  (repeat (first | (at_builtin; refine wpList_append_own _ rfl (.tmp 292) (.tmp 299) 54 rfl w.heap.size 20 i0 _ 1 16 Tryd.underlying54 hi hz0 hz1 hz2 rfl (by decide) _ j vs rfl ?own ⟨wr.heap.size, 0, none⟩ 1 1 [_] rfl rfl (by exact fun j u hj => (cell_new wr 20 _ j).trans hj) ?c2 ?c3 ?c4 ?c5 ?_) | go_values | go_skip | go_guarded | go_step | go_upon))
  case own => exact HO1.out.alloc _
  case c2 => intro u hu; simp at hu; subst hu; rfl
  case c3 => unfold maxLen; omega
  case c4 => omega
  case c5 => have := BW.size; show _ ≤ (wr.alloc _).heap.size; simp; omega
  intro v' w2 hown hgrow _
  have hV2 := areV_snoc HO1.out HX.out HV1.out HU.out hgrow
  have hB2 := (BW.alloc BW.size (.cells #[.iface 9 (.string ⟨xs.toArray⟩)] 20)).grown hgrow (by have := BW.size; show _ ≤ (wr.alloc _).heap.size; simp; omega) (fun g hg => (HO1.out.lt g hg).1)
  have HO2 := Lib.hid hown
  have HV2 := Lib.hid hV2
  have HB2 := Lib.hid hB2
  clear hown hgrow hV2 hB2
  (repeat (first | go_values | go_skip | go_guarded | go_step | go_upon))
  refine HN.out _ w2 _ (c - 8) v' _ ⟨rfl, rfl, rfl, rfl, rfl, rfl⟩ (by omega) (by omega) ?rd HB2.out HO2.out HV2.out
  case rd =>
    refine ⟨HM.out, ?_⟩
    rcases Nat.eq_zero_or_pos m with h | h
    · exact .inl (List.eq_nil_of_length_eq_zero (HM.out.trans h))
    · refine .inr ⟨b, o + (8), by rw [if_neg (by omega)], hlt, fun i x hx => ?_⟩
      refine (HB2.out.cell (p := ⟨b, o + (8) + i, none⟩) hlt).trans ((hB.cell (p := ⟨b, o + (8) + i, none⟩) hlt).symm.trans ?_)
      exact HRS.out i x hx

set_option maxRecDepth 100000 in
set_option maxHeartbeats 4000000 in
theorem round23_s8 (xs : List UInt8) (hxl : xs.length = 8) : Round23 (49 :: xs) (.str xs) := by
  obtain ⟨i0, hi, hz0, hz1, hz2⟩ := info_parts info20
  obtain ⟨ib, hib, hb0, hb1, hb2⟩ := info_parts info5
  intro K Q0 w wr a c j rest v vs ys s4 u hlc hc hl hk hr hB hO hx hV hnext
  obtain ⟨b, o, rfl, hlt, hcell⟩ : ∃ b o, a = some ⟨b, o, none⟩ ∧ b < w.heap.size ∧ ∀ (i : Nat) (x : UInt8), ((49 :: xs) ++ rest)[i]? = some x → wr.cell? ⟨b, o + i, none⟩ = some (.int .u8 (x.toNat : Int)) := by
    rcases hr.2 with h | h
    · cases h
    · exact h
  have hc0 : wr.cell? ⟨b, o, none⟩ = some (.int .u8 49) := hcell 0 49 rfl
  have hlen : ((49 :: xs) ++ rest).length = rest.length + (9) := by simp only [List.length_append, List.length_cons]; omega
  have hch : (49 :: xs).length = 9 := by simp only [List.length_cons]; omega
  have hxs : ∀ (i : Nat) (x : UInt8), xs[i]? = some x → wr.cell? ⟨b, o + 1 + i, none⟩ = some (.int .u8 (x.toNat : Int)) := fun i x hi => by
    have hil : i < xs.length := (List.getElem?_eq_some_iff.1 hi).1
    have := hcell (i + 1) x (by rw [List.cons_append, List.getElem?_cons_succ, List.getElem?_append_left hil]; exact hi)
    rwa [show o + (i + 1) = o + 1 + i by omega] at this
  have hrs : ∀ (i : Nat) (x : UInt8), rest[i]? = some x → wr.cell? ⟨b, o + (9) + i, none⟩ = some (.int .u8 (x.toNat : Int)) := fun i x hi => by
    have := hcell (i + (9)) x (by rw [List.getElem?_append_right (by omega), hch, Nat.add_sub_cancel]; exact hi)
    rwa [show o + (i + (9)) = o + (9) + i by omega] at this
  rw [hlen] at hlc hl
  rw [hlen]
  have HXS := Lib.hid hxs
  have HRS := Lib.hid hrs
  have HN := Lib.hid hnext
  have HO := Lib.hid hO
  have HV := Lib.hid hV
  have HX := Lib.hid hx
  have HXL := Lib.hid hxl
  generalize hm : rest.length = m at *
  have HM := Lib.hid hm
  have hcv : ∀ d : Nat, (convert 27 9 (.slice (some ⟨b, o + 1, none⟩) 8 d)).run Tryd.prog wr = .ok (.string ⟨xs.toArray⟩) wr := fun d => run_bytes_string ⟨HXL.out, .inr ⟨b, o + 1, rfl, Nat.lt_of_lt_of_le hlt hB.size, HXS.out⟩⟩ 27 9 5 Tryd.underlying27 Tryd.underlying5 Tryd.underlying9
  clear hr hcell hnext hlen hO hV hx hm hxs hrs hxl hch
  conv => arg 2; whnf
  unfold frm23
  have B1 : Below wr.heap.size wr wr := Below.refl _ _
  have HO1 := HO
  have HV1 := HV
  have HU := Lib.hid (show avIs wr.heap.size wr (.str xs) (.iface 9 (.string ⟨xs.toArray⟩)) from rfl)
  have BW := hB
  (repeat (first | (at_builtin; refine wpList_append_own _ rfl (.tmp 292) (.tmp 299) 54 rfl w.heap.size 20 i0 _ 1 16 Tryd.underlying54 hi hz0 hz1 hz2 rfl (by decide) _ j vs rfl ?own ⟨wr.heap.size, 0, none⟩ 1 1 [_] rfl rfl (by exact fun j u hj => (cell_new wr 20 _ j).trans hj) ?c2 ?c3 ?c4 ?c5 ?_) | go_values | go_skip | go_guarded | go_step | go_upon))
  case own => exact HO1.out.alloc _
  case c2 => intro u hu; simp at hu; subst hu; rfl
  case c3 => unfold maxLen; omega
  case c4 => omega
  case c5 => have := BW.size; show _ ≤ (wr.alloc _).heap.size; simp; omega
  intro v' w2 hown hgrow _
  have hV2 := areV_snoc HO1.out HX.out HV1.out HU.out hgrow
  have hB2 := (BW.alloc BW.size (.cells #[.iface 9 (.string ⟨xs.toArray⟩)] 20)).grown hgrow (by have := BW.size; show _ ≤ (wr.alloc _).heap.size; simp; omega) (fun g hg => (HO1.out.lt g hg).1)
  have HO2 := Lib.hid hown
  have HV2 := Lib.hid hV2
  have HB2 := Lib.hid hB2
  clear hown hgrow hV2 hB2
  (repeat (first | go_values | go_skip | go_guarded | go_step | go_upon))
  refine HN.out _ w2 _ (c - 9) v' _ ⟨rfl, rfl, rfl, rfl, rfl, rfl⟩ (by omega) (by omega) ?rd HB2.out HO2.out HV2.out
  case rd =>
    refine ⟨HM.out, ?_⟩
    rcases Nat.eq_zero_or_pos m with h | h
    · exact .inl (List.eq_nil_of_length_eq_zero (HM.out.trans h))
    · refine .inr ⟨b, o + (9), by rw [if_neg (by omega)], hlt, fun i x hx => ?_⟩
      refine (HB2.out.cell (p := ⟨b, o + (9) + i, none⟩) hlt).trans ((hB.cell (p := ⟨b, o + (9) + i, none⟩) hlt).symm.trans ?_)
      exact HRS.out i x hx

set_option maxRecDepth 100000 in
set_option maxHeartbeats 4000000 in
theorem round23_s9 (xs : List UInt8) (hxl : xs.length = 9) : Round23 (50 :: xs) (.str xs) := by
  obtain ⟨i0, hi, hz0, hz1, hz2⟩ := info_parts info20
  obtain ⟨ib, hib, hb0, hb1, hb2⟩ := info_parts info5
  intro K Q0 w wr a c j rest v vs ys s4 u hlc hc hl hk hr hB hO hx hV hnext
  obtain ⟨b, o, rfl, hlt, hcell⟩ : ∃ b o, a = some ⟨b, o, none⟩ ∧ b < w.heap.size ∧ ∀ (i : Nat) (x : UInt8), ((50 :: xs) ++ rest)[i]? = some x → wr.cell? ⟨b, o + i, none⟩ = some (.int .u8 (x.toNat : Int)) := by
    rcases hr.2 with h | h
    · cases h
    · exact h
  have hc0 : wr.cell? ⟨b, o, none⟩ = some (.int .u8 50) := hcell 0 50 rfl
  have hlen : ((50 :: xs) ++ rest).length = rest.length + (10) := by simp only [List.length_append, List.length_cons]; omega
  have hch : (50 :: xs).length = 10 := by simp only [List.length_cons]; omega
  have hxs : ∀ (i : Nat) (x : UInt8), xs[i]? = some x → wr.cell? ⟨b, o + 1 + i, none⟩ = some (.int .u8 (x.toNat : Int)) := fun i x hi => by
    have hil : i < xs.length := (List.getElem?_eq_some_iff.1 hi).1
    have := hcell (i + 1) x (by rw [List.cons_append, List.getElem?_cons_succ, List.getElem?_append_left hil]; exact hi)
    rwa [show o + (i + 1) = o + 1 + i by omega] at this
  have hrs : ∀ (i : Nat) (x : UInt8), rest[i]? = some x → wr.cell? ⟨b, o + (10) + i, none⟩ = some (.int .u8 (x.toNat : Int)) := fun i x hi => by
    have := hcell (i + (10)) x (by rw [List.getElem?_append_right (by omega), hch, Nat.add_sub_cancel]; exact hi)
    rwa [show o + (i + (10)) = o + (10) + i by omega] at this
  rw [hlen] at hlc hl
  rw [hlen]
  have HXS := Lib.hid hxs
  have HRS := Lib.hid hrs
  have HN := Lib.hid hnext
  have HO := Lib.hid hO
  have HV := Lib.hid hV
  have HX := Lib.hid hx
  have HXL := Lib.hid hxl
  generalize hm : rest.length = m at *
  have HM := Lib.hid hm
  have hcv : ∀ d : Nat, (convert 27 9 (.slice (some ⟨b, o + 1, none⟩) 9 d)).run Tryd.prog wr = .ok (.string ⟨xs.toArray⟩) wr := fun d => run_bytes_string ⟨HXL.out, .inr ⟨b, o + 1, rfl, Nat.lt_of_lt_of_le hlt hB.size, HXS.out⟩⟩ 27 9 5 Tryd.underlying27 Tryd.underlying5 Tryd.underlying9
  clear hr hcell hnext hlen hO hV hx hm hxs hrs hxl hch
  conv => arg 2; whnf
  unfold frm23
  have B1 : Below wr.heap.size wr wr := Below.refl _ _
  have HO1 := HO
  have HV1 := HV
  have HU := Lib.hid (show avIs wr.heap.size wr (.str xs) (.iface 9 (.string ⟨xs.toArray⟩)) from rfl)
  have BW := hB
  (repeat (first | (at_builtin; refine wpList_append_own _ rfl (.tmp 292) (.tmp 299) 54 rfl w.heap.size 20 i0 _ 1 16 Tryd.underlying54 hi hz0 hz1 hz2 rfl (by decide) _ j vs rfl ?own ⟨wr.heap.size, 0, none⟩ 1 1 [_] rfl rfl (by exact fun j u hj => (cell_new wr 20 _ j).trans hj) ?c2 ?c3 ?c4 ?c5 ?_) | go_values | go_skip | go_guarded | go_step | go_upon))
  case own => exact HO1.out.alloc _
  case c2 => intro u hu; simp at hu; subst hu; rfl
  case c3 => unfold maxLen; omega
  case c4 => omega
  case c5 => have := BW.size; show _ ≤ (wr.alloc _).heap.size; simp; omega
  intro v' w2 hown hgrow _
  have hV2 := areV_snoc HO1.out HX.out HV1.out HU.out hgrow
  have hB2 := (BW.alloc BW.size (.cells #[.iface 9 (.string ⟨xs.toArray⟩)] 20)).grown hgrow (by have := BW.size; show _ ≤ (wr.alloc _).heap.size; simp; omega) (fun g hg => (HO1.out.lt g hg).1)
  have HO2 := Lib.hid hown
  have HV2 := Lib.hid hV2
  have HB2 := Lib.hid hB2
  clear hown hgrow hV2 hB2
  (repeat (first | go_values | go_skip | go_guarded | go_step | go_upon))
  refine HN.out _ w2 _ (c - 10) v' _ ⟨rfl, rfl, rfl, rfl, rfl, rfl⟩ (by omega) (by omega) ?rd HB2.out HO2.out HV2.out
  case rd =>
    refine ⟨HM.out, ?_⟩
    rcases Nat.eq_zero_or_pos m with h | h
    · exact .inl (List.eq_nil_of_length_eq_zero (HM.out.trans h))
    · refine .inr ⟨b, o + (10), by rw [if_neg (by omega)], hlt, fun i x hx => ?_⟩
      refine (HB2.out.cell (p := ⟨b, o + (10) + i, none⟩) hlt).trans ((hB.cell (p := ⟨b, o + (10) + i, none⟩) hlt).symm.trans ?_)
      exact HRS.out i x hx

end Go.Proofs.YtaoonpncnahhgaaDoor
