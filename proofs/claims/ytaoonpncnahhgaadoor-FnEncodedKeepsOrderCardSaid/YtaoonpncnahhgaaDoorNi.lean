/-
  The rounds of DecodeScalars over numbers: tags 77, 78, 79, 80, 81, 82, 83, 84.
-/
import Derived.Test.YtaoonpncnahhgaaDoorD8
namespace Go.Proofs.YtaoonpncnahhgaaDoor
open Go.RowKit

set_option maxRecDepth 100000 in
set_option maxHeartbeats 4000000 in
theorem round23_i1 (xs : List UInt8) (hxl : xs.length = 1) (h63 : valB xs < 9223372036854775808) : Round23 (77 :: xs) (.i64 (valB xs)) := by
  obtain ⟨i0, hi, hz0, hz1, hz2⟩ := info_parts info20
  intro K Q0 w wr a c j rest v vs ys s4 u hlc hc hl hk hr hB hO hx hV hnext
  obtain ⟨b, o, rfl, hlt, hcell⟩ : ∃ b o, a = some ⟨b, o, none⟩ ∧ b < w.heap.size ∧ ∀ (i : Nat) (x : UInt8), ((77 :: xs) ++ rest)[i]? = some x → wr.cell? ⟨b, o + i, none⟩ = some (.int .u8 (x.toNat : Int)) := by
    rcases hr.2 with h | h
    · cases h
    · exact h
  have hc0 : wr.cell? ⟨b, o, none⟩ = some (.int .u8 77) := hcell 0 77 rfl
  have hxs : ∀ (i : Nat) (x : UInt8), xs[i]? = some x → wr.cell? ⟨b, o + 1 + i, none⟩ = some (.int .u8 (x.toNat : Int)) := fun i x hi => by
    have hil : i < xs.length := (List.getElem?_eq_some_iff.1 hi).1
    have := hcell (i + 1) x (by rw [List.cons_append, List.getElem?_cons_succ, List.getElem?_append_left hil]; exact hi)
    rwa [show o + (i + 1) = o + 1 + i by omega] at this
  have hrs : ∀ (i : Nat) (x : UInt8), rest[i]? = some x → wr.cell? ⟨b, o + 2 + i, none⟩ = some (.int .u8 (x.toNat : Int)) := fun i x hi => by
    have := hcell (i + 2) x (by rw [List.getElem?_append_right (by simp; omega)]; simpa [hxl] using hi)
    rwa [show o + (i + 2) = o + 2 + i by omega] at this
  have hlen : ((77 :: xs) ++ rest).length = rest.length + 2 := by simp; omega
  rw [hlen] at hlc hl
  rw [hlen]
  have HXS := Lib.hid hxs
  have HRS := Lib.hid hrs
  have HN := Lib.hid hnext
  have HO := Lib.hid hO
  have HV := Lib.hid hV
  have HX := Lib.hid hx
  have HXL := Lib.hid hxl
  generalize hm : rest.length = m at *
  have HM := Lib.hid hm
  clear hr hcell hnext hlen hO hV hx hm hxs hrs hxl
  conv => arg 2; whnf
  unfold frm23
  (repeat (first | go_values | go_skip | go_guarded | go_step | go_upon))
  refine loopI _ wr b (o + 1) 1 _ xs HXL.out (by omega) h63 HXS.out _ _ _ _ _ _ ⟨rfl, rfl, rfl, rfl, rfl, rfl, rfl, rfl, rfl, rfl, rfl⟩ ?_
  intro a2 hs
  obtain ⟨u2, rfl⟩ := hs.frm
  clear hs hc0
  unfold frmI
  (repeat (first | (at_builtin; refine wpList_append_own _ rfl (.tmp 479) (.tmp 482) 54 rfl w.heap.size 20 i0 _ 1 16 Tryd.underlying54 hi hz0 hz1 hz2 rfl (by decide) _ j vs rfl ?own ⟨wr.heap.size, 0, none⟩ 1 1 [_] rfl rfl (by exact fun j u hj => (cell_new wr 20 _ j).trans hj) ?c2 ?c3 ?c4 ?c5 ?_) | go_values | go_skip | go_guarded | go_step | go_upon))
  case own => exact HO.out.alloc _
  case c2 => intro u hu; simp at hu; subst hu; rfl
  case c3 => unfold maxLen; omega
  case c4 => omega
  case c5 => have := hB.size; show _ ≤ (wr.alloc _).heap.size; simp; omega
  intro v' w1 hown hgrow _
  have hV2 := areV_snoc HO.out HX.out HV.out (x := .i64 (valB xs)) (u := .iface 2 (.int .i64 ((valB xs : Nat) : Int))) rfl hgrow
  have hB2 := (hB.alloc hB.size (.cells #[.iface 2 (.int .i64 ((valB xs : Nat) : Int))] 20)).grown hgrow (by have := hB.size; show _ ≤ (wr.alloc _).heap.size; simp; omega) (fun g hg => (HO.out.lt g hg).1)
  have HO2 := Lib.hid hown
  have HV2 := Lib.hid hV2
  have HB2 := Lib.hid hB2
  clear hown hgrow hV2 hB2
  (repeat (first | go_values | go_skip | go_guarded | go_step | go_upon))

  refine HN.out _ w1 _ (c - 2) v' _ ⟨rfl, rfl, rfl, rfl, rfl, rfl⟩ (by omega) (by omega) ?rd HB2.out HO2.out HV2.out
  case rd =>
    refine ⟨HM.out, ?_⟩
    rcases Nat.eq_zero_or_pos m with h | h
    · exact .inl (List.eq_nil_of_length_eq_zero (HM.out.trans h))
    · refine .inr ⟨b, o + 2, by rw [if_neg (by omega)], hlt, fun i x hx => ?_⟩
      refine (HB2.out.cell (p := ⟨b, o + 2 + i, none⟩) hlt).trans ((hB.cell (p := ⟨b, o + 2 + i, none⟩) hlt).symm.trans ?_)
      exact HRS.out i x hx

set_option maxRecDepth 100000 in
set_option maxHeartbeats 4000000 in
theorem round23_i2 (xs : List UInt8) (hxl : xs.length = 2) (h63 : valB xs < 9223372036854775808) : Round23 (78 :: xs) (.i64 (valB xs)) := by
  obtain ⟨i0, hi, hz0, hz1, hz2⟩ := info_parts info20
  intro K Q0 w wr a c j rest v vs ys s4 u hlc hc hl hk hr hB hO hx hV hnext
  obtain ⟨b, o, rfl, hlt, hcell⟩ : ∃ b o, a = some ⟨b, o, none⟩ ∧ b < w.heap.size ∧ ∀ (i : Nat) (x : UInt8), ((78 :: xs) ++ rest)[i]? = some x → wr.cell? ⟨b, o + i, none⟩ = some (.int .u8 (x.toNat : Int)) := by
    rcases hr.2 with h | h
    · cases h
    · exact h
  have hc0 : wr.cell? ⟨b, o, none⟩ = some (.int .u8 78) := hcell 0 78 rfl
  have hxs : ∀ (i : Nat) (x : UInt8), xs[i]? = some x → wr.cell? ⟨b, o + 1 + i, none⟩ = some (.int .u8 (x.toNat : Int)) := fun i x hi => by
    have hil : i < xs.length := (List.getElem?_eq_some_iff.1 hi).1
    have := hcell (i + 1) x (by rw [List.cons_append, List.getElem?_cons_succ, List.getElem?_append_left hil]; exact hi)
    rwa [show o + (i + 1) = o + 1 + i by omega] at this
  have hrs : ∀ (i : Nat) (x : UInt8), rest[i]? = some x → wr.cell? ⟨b, o + 3 + i, none⟩ = some (.int .u8 (x.toNat : Int)) := fun i x hi => by
    have := hcell (i + 3) x (by rw [List.getElem?_append_right (by simp; omega)]; simpa [hxl] using hi)
    rwa [show o + (i + 3) = o + 3 + i by omega] at this
  have hlen : ((78 :: xs) ++ rest).length = rest.length + 3 := by simp; omega
  rw [hlen] at hlc hl
  rw [hlen]
  have HXS := Lib.hid hxs
  have HRS := Lib.hid hrs
  have HN := Lib.hid hnext
  have HO := Lib.hid hO
  have HV := Lib.hid hV
  have HX := Lib.hid hx
  have HXL := Lib.hid hxl
  generalize hm : rest.length = m at *
  have HM := Lib.hid hm
  clear hr hcell hnext hlen hO hV hx hm hxs hrs hxl
  conv => arg 2; whnf
  unfold frm23
  (repeat (first | go_values | go_skip | go_guarded | go_step | go_upon))
  refine loopI _ wr b (o + 1) 2 _ xs HXL.out (by omega) h63 HXS.out _ _ _ _ _ _ ⟨rfl, rfl, rfl, rfl, rfl, rfl, rfl, rfl, rfl, rfl, rfl⟩ ?_
  intro a2 hs
  obtain ⟨u2, rfl⟩ := hs.frm
  clear hs hc0
  unfold frmI
  (repeat (first | (at_builtin; refine wpList_append_own _ rfl (.tmp 479) (.tmp 482) 54 rfl w.heap.size 20 i0 _ 1 16 Tryd.underlying54 hi hz0 hz1 hz2 rfl (by decide) _ j vs rfl ?own ⟨wr.heap.size, 0, none⟩ 1 1 [_] rfl rfl (by exact fun j u hj => (cell_new wr 20 _ j).trans hj) ?c2 ?c3 ?c4 ?c5 ?_) | go_values | go_skip | go_guarded | go_step | go_upon))
  case own => exact HO.out.alloc _
  case c2 => intro u hu; simp at hu; subst hu; rfl
  case c3 => unfold maxLen; omega
  case c4 => omega
  case c5 => have := hB.size; show _ ≤ (wr.alloc _).heap.size; simp; omega
  intro v' w1 hown hgrow _
  have hV2 := areV_snoc HO.out HX.out HV.out (x := .i64 (valB xs)) (u := .iface 2 (.int .i64 ((valB xs : Nat) : Int))) rfl hgrow
  have hB2 := (hB.alloc hB.size (.cells #[.iface 2 (.int .i64 ((valB xs : Nat) : Int))] 20)).grown hgrow (by have := hB.size; show _ ≤ (wr.alloc _).heap.size; simp; omega) (fun g hg => (HO.out.lt g hg).1)
  have HO2 := Lib.hid hown
  have HV2 := Lib.hid hV2
  have HB2 := Lib.hid hB2
  clear hown hgrow hV2 hB2
  (repeat (first | go_values | go_skip | go_guarded | go_step | go_upon))

  refine HN.out _ w1 _ (c - 3) v' _ ⟨rfl, rfl, rfl, rfl, rfl, rfl⟩ (by omega) (by omega) ?rd HB2.out HO2.out HV2.out
  case rd =>
    refine ⟨HM.out, ?_⟩
    rcases Nat.eq_zero_or_pos m with h | h
    · exact .inl (List.eq_nil_of_length_eq_zero (HM.out.trans h))
    · refine .inr ⟨b, o + 3, by rw [if_neg (by omega)], hlt, fun i x hx => ?_⟩
      refine (HB2.out.cell (p := ⟨b, o + 3 + i, none⟩) hlt).trans ((hB.cell (p := ⟨b, o + 3 + i, none⟩) hlt).symm.trans ?_)
      exact HRS.out i x hx

set_option maxRecDepth 100000 in
set_option maxHeartbeats 4000000 in
theorem round23_i3 (xs : List UInt8) (hxl : xs.length = 3) (h63 : valB xs < 9223372036854775808) : Round23 (79 :: xs) (.i64 (valB xs)) := by
  obtain ⟨i0, hi, hz0, hz1, hz2⟩ := info_parts info20
  intro K Q0 w wr a c j rest v vs ys s4 u hlc hc hl hk hr hB hO hx hV hnext
  obtain ⟨b, o, rfl, hlt, hcell⟩ : ∃ b o, a = some ⟨b, o, none⟩ ∧ b < w.heap.size ∧ ∀ (i : Nat) (x : UInt8), ((79 :: xs) ++ rest)[i]? = some x → wr.cell? ⟨b, o + i, none⟩ = some (.int .u8 (x.toNat : Int)) := by
    rcases hr.2 with h | h
    · cases h
    · exact h
  have hc0 : wr.cell? ⟨b, o, none⟩ = some (.int .u8 79) := hcell 0 79 rfl
  have hxs : ∀ (i : Nat) (x : UInt8), xs[i]? = some x → wr.cell? ⟨b, o + 1 + i, none⟩ = some (.int .u8 (x.toNat : Int)) := fun i x hi => by
    have hil : i < xs.length := (List.getElem?_eq_some_iff.1 hi).1
    have := hcell (i + 1) x (by rw [List.cons_append, List.getElem?_cons_succ, List.getElem?_append_left hil]; exact hi)
    rwa [show o + (i + 1) = o + 1 + i by omega] at this
  have hrs : ∀ (i : Nat) (x : UInt8), rest[i]? = some x → wr.cell? ⟨b, o + 4 + i, none⟩ = some (.int .u8 (x.toNat : Int)) := fun i x hi => by
    have := hcell (i + 4) x (by rw [List.getElem?_append_right (by simp; omega)]; simpa [hxl] using hi)
    rwa [show o + (i + 4) = o + 4 + i by omega] at this
  have hlen : ((79 :: xs) ++ rest).length = rest.length + 4 := by simp; omega
  rw [hlen] at hlc hl
  rw [hlen]
  have HXS := Lib.hid hxs
  have HRS := Lib.hid hrs
  have HN := Lib.hid hnext
  have HO := Lib.hid hO
  have HV := Lib.hid hV
  have HX := Lib.hid hx
  have HXL := Lib.hid hxl
  generalize hm : rest.length = m at *
  have HM := Lib.hid hm
  clear hr hcell hnext hlen hO hV hx hm hxs hrs hxl
  conv => arg 2; whnf
  unfold frm23
  (repeat (first | go_values | go_skip | go_guarded | go_step | go_upon))
  refine loopI _ wr b (o + 1) 3 _ xs HXL.out (by omega) h63 HXS.out _ _ _ _ _ _ ⟨rfl, rfl, rfl, rfl, rfl, rfl, rfl, rfl, rfl, rfl, rfl⟩ ?_
  intro a2 hs
  obtain ⟨u2, rfl⟩ := hs.frm
  clear hs hc0
  unfold frmI
  (repeat (first | (at_builtin; refine wpList_append_own _ rfl (.tmp 479) (.tmp 482) 54 rfl w.heap.size 20 i0 _ 1 16 Tryd.underlying54 hi hz0 hz1 hz2 rfl (by decide) _ j vs rfl ?own ⟨wr.heap.size, 0, none⟩ 1 1 [_] rfl rfl (by exact fun j u hj => (cell_new wr 20 _ j).trans hj) ?c2 ?c3 ?c4 ?c5 ?_) | go_values | go_skip | go_guarded | go_step | go_upon))
  case own => exact HO.out.alloc _
  case c2 => intro u hu; simp at hu; subst hu; rfl
  case c3 => unfold maxLen; omega
  case c4 => omega
  case c5 => have := hB.size; show _ ≤ (wr.alloc _).heap.size; simp; omega
  intro v' w1 hown hgrow _
  have hV2 := areV_snoc HO.out HX.out HV.out (x := .i64 (valB xs)) (u := .iface 2 (.int .i64 ((valB xs : Nat) : Int))) rfl hgrow
  have hB2 := (hB.alloc hB.size (.cells #[.iface 2 (.int .i64 ((valB xs : Nat) : Int))] 20)).grown hgrow (by have := hB.size; show _ ≤ (wr.alloc _).heap.size; simp; omega) (fun g hg => (HO.out.lt g hg).1)
  have HO2 := Lib.hid hown
  have HV2 := Lib.hid hV2
  have HB2 := Lib.hid hB2
  clear hown hgrow hV2 hB2
  (repeat (first | go_values | go_skip | go_guarded | go_step | go_upon))

  refine HN.out _ w1 _ (c - 4) v' _ ⟨rfl, rfl, rfl, rfl, rfl, rfl⟩ (by omega) (by omega) ?rd HB2.out HO2.out HV2.out
  case rd =>
    refine ⟨HM.out, ?_⟩
    rcases Nat.eq_zero_or_pos m with h | h
    · exact .inl (List.eq_nil_of_length_eq_zero (HM.out.trans h))
    · refine .inr ⟨b, o + 4, by rw [if_neg (by omega)], hlt, fun i x hx => ?_⟩
      refine (HB2.out.cell (p := ⟨b, o + 4 + i, none⟩) hlt).trans ((hB.cell (p := ⟨b, o + 4 + i, none⟩) hlt).symm.trans ?_)
      exact HRS.out i x hx

set_option maxRecDepth 100000 in
set_option maxHeartbeats 4000000 in
theorem round23_i4 (xs : List UInt8) (hxl : xs.length = 4) (h63 : valB xs < 9223372036854775808) : Round23 (80 :: xs) (.i64 (valB xs)) := by
  obtain ⟨i0, hi, hz0, hz1, hz2⟩ := info_parts info20
  intro K Q0 w wr a c j rest v vs ys s4 u hlc hc hl hk hr hB hO hx hV hnext
  obtain ⟨b, o, rfl, hlt, hcell⟩ : ∃ b o, a = some ⟨b, o, none⟩ ∧ b < w.heap.size ∧ ∀ (i : Nat) (x : UInt8), ((80 :: xs) ++ rest)[i]? = some x → wr.cell? ⟨b, o + i, none⟩ = some (.int .u8 (x.toNat : Int)) := by
    rcases hr.2 with h | h
    · cases h
    · exact h
  have hc0 : wr.cell? ⟨b, o, none⟩ = some (.int .u8 80) := hcell 0 80 rfl
  have hxs : ∀ (i : Nat) (x : UInt8), xs[i]? = some x → wr.cell? ⟨b, o + 1 + i, none⟩ = some (.int .u8 (x.toNat : Int)) := fun i x hi => by
    have hil : i < xs.length := (List.getElem?_eq_some_iff.1 hi).1
    have := hcell (i + 1) x (by rw [List.cons_append, List.getElem?_cons_succ, List.getElem?_append_left hil]; exact hi)
    rwa [show o + (i + 1) = o + 1 + i by omega] at this
  have hrs : ∀ (i : Nat) (x : UInt8), rest[i]? = some x → wr.cell? ⟨b, o + 5 + i, none⟩ = some (.int .u8 (x.toNat : Int)) := fun i x hi => by
    have := hcell (i + 5) x (by rw [List.getElem?_append_right (by simp; omega)]; simpa [hxl] using hi)
    rwa [show o + (i + 5) = o + 5 + i by omega] at this
  have hlen : ((80 :: xs) ++ rest).length = rest.length + 5 := by simp; omega
  rw [hlen] at hlc hl
  rw [hlen]
  have HXS := Lib.hid hxs
  have HRS := Lib.hid hrs
  have HN := Lib.hid hnext
  have HO := Lib.hid hO
  have HV := Lib.hid hV
  have HX := Lib.hid hx
  have HXL := Lib.hid hxl
  generalize hm : rest.length = m at *
  have HM := Lib.hid hm
  clear hr hcell hnext hlen hO hV hx hm hxs hrs hxl
  conv => arg 2; whnf
  unfold frm23
  (repeat (first | go_values | go_skip | go_guarded | go_step | go_upon))
  refine loopI _ wr b (o + 1) 4 _ xs HXL.out (by omega) h63 HXS.out _ _ _ _ _ _ ⟨rfl, rfl, rfl, rfl, rfl, rfl, rfl, rfl, rfl, rfl, rfl⟩ ?_
  intro a2 hs
  obtain ⟨u2, rfl⟩ := hs.frm
  clear hs hc0
  unfold frmI
  (repeat (first | (at_builtin; refine wpList_append_own _ rfl (.tmp 479) (.tmp 482) 54 rfl w.heap.size 20 i0 _ 1 16 Tryd.underlying54 hi hz0 hz1 hz2 rfl (by decide) _ j vs rfl ?own ⟨wr.heap.size, 0, none⟩ 1 1 [_] rfl rfl (by exact fun j u hj => (cell_new wr 20 _ j).trans hj) ?c2 ?c3 ?c4 ?c5 ?_) | go_values | go_skip | go_guarded | go_step | go_upon))
  case own => exact HO.out.alloc _
  case c2 => intro u hu; simp at hu; subst hu; rfl
  case c3 => unfold maxLen; omega
  case c4 => omega
  case c5 => have := hB.size; show _ ≤ (wr.alloc _).heap.size; simp; omega
  intro v' w1 hown hgrow _
  have hV2 := areV_snoc HO.out HX.out HV.out (x := .i64 (valB xs)) (u := .iface 2 (.int .i64 ((valB xs : Nat) : Int))) rfl hgrow
  have hB2 := (hB.alloc hB.size (.cells #[.iface 2 (.int .i64 ((valB xs : Nat) : Int))] 20)).grown hgrow (by have := hB.size; show _ ≤ (wr.alloc _).heap.size; simp; omega) (fun g hg => (HO.out.lt g hg).1)
  have HO2 := Lib.hid hown
  have HV2 := Lib.hid hV2
  have HB2 := Lib.hid hB2
  clear hown hgrow hV2 hB2
  (repeat (first | go_values | go_skip | go_guarded | go_step | go_upon))

  refine HN.out _ w1 _ (c - 5) v' _ ⟨rfl, rfl, rfl, rfl, rfl, rfl⟩ (by omega) (by omega) ?rd HB2.out HO2.out HV2.out
  case rd =>
    refine ⟨HM.out, ?_⟩
    rcases Nat.eq_zero_or_pos m with h | h
    · exact .inl (List.eq_nil_of_length_eq_zero (HM.out.trans h))
    · refine .inr ⟨b, o + 5, by rw [if_neg (by omega)], hlt, fun i x hx => ?_⟩
      refine (HB2.out.cell (p := ⟨b, o + 5 + i, none⟩) hlt).trans ((hB.cell (p := ⟨b, o + 5 + i, none⟩) hlt).symm.trans ?_)
      exact HRS.out i x hx

set_option maxRecDepth 100000 in
set_option maxHeartbeats 4000000 in
theorem round23_i5 (xs : List UInt8) (hxl : xs.length = 5) (h63 : valB xs < 9223372036854775808) : Round23 (81 :: xs) (.i64 (valB xs)) := by
  obtain ⟨i0, hi, hz0, hz1, hz2⟩ := info_parts info20
  intro K Q0 w wr a c j rest v vs ys s4 u hlc hc hl hk hr hB hO hx hV hnext
  obtain ⟨b, o, rfl, hlt, hcell⟩ : ∃ b o, a = some ⟨b, o, none⟩ ∧ b < w.heap.size ∧ ∀ (i : Nat) (x : UInt8), ((81 :: xs) ++ rest)[i]? = some x → wr.cell? ⟨b, o + i, none⟩ = some (.int .u8 (x.toNat : Int)) := by
    rcases hr.2 with h | h
    · cases h
    · exact h
  have hc0 : wr.cell? ⟨b, o, none⟩ = some (.int .u8 81) := hcell 0 81 rfl
  have hxs : ∀ (i : Nat) (x : UInt8), xs[i]? = some x → wr.cell? ⟨b, o + 1 + i, none⟩ = some (.int .u8 (x.toNat : Int)) := fun i x hi => by
    have hil : i < xs.length := (List.getElem?_eq_some_iff.1 hi).1
    have := hcell (i + 1) x (by rw [List.cons_append, List.getElem?_cons_succ, List.getElem?_append_left hil]; exact hi)
    rwa [show o + (i + 1) = o + 1 + i by omega] at this
  have hrs : ∀ (i : Nat) (x : UInt8), rest[i]? = some x → wr.cell? ⟨b, o + 6 + i, none⟩ = some (.int .u8 (x.toNat : Int)) := fun i x hi => by
    have := hcell (i + 6) x (by rw [List.getElem?_append_right (by simp; omega)]; simpa [hxl] using hi)
    rwa [show o + (i + 6) = o + 6 + i by omega] at this
  have hlen : ((81 :: xs) ++ rest).length = rest.length + 6 := by simp; omega
  rw [hlen] at hlc hl
  rw [hlen]
  have HXS := Lib.hid hxs
  have HRS := Lib.hid hrs
  have HN := Lib.hid hnext
  have HO := Lib.hid hO
  have HV := Lib.hid hV
  have HX := Lib.hid hx
  have HXL := Lib.hid hxl
  generalize hm : rest.length = m at *
  have HM := Lib.hid hm
  clear hr hcell hnext hlen hO hV hx hm hxs hrs hxl
  conv => arg 2; whnf
  unfold frm23
  (repeat (first | go_values | go_skip | go_guarded | go_step | go_upon))
  refine loopI _ wr b (o + 1) 5 _ xs HXL.out (by omega) h63 HXS.out _ _ _ _ _ _ ⟨rfl, rfl, rfl, rfl, rfl, rfl, rfl, rfl, rfl, rfl, rfl⟩ ?_
  intro a2 hs
  obtain ⟨u2, rfl⟩ := hs.frm
  clear hs hc0
  unfold frmI
  (repeat (first | (at_builtin; refine wpList_append_own _ rfl (.tmp 479) (.tmp 482) 54 rfl w.heap.size 20 i0 _ 1 16 Tryd.underlying54 hi hz0 hz1 hz2 rfl (by decide) _ j vs rfl ?own ⟨wr.heap.size, 0, none⟩ 1 1 [_] rfl rfl (by exact fun j u hj => (cell_new wr 20 _ j).trans hj) ?c2 ?c3 ?c4 ?c5 ?_) | go_values | go_skip | go_guarded | go_step | go_upon))
  case own => exact HO.out.alloc _
  case c2 => intro u hu; simp at hu; subst hu; rfl
  case c3 => unfold maxLen; omega
  case c4 => omega
  case c5 => have := hB.size; show _ ≤ (wr.alloc _).heap.size; simp; omega
  intro v' w1 hown hgrow _
  have hV2 := areV_snoc HO.out HX.out HV.out (x := .i64 (valB xs)) (u := .iface 2 (.int .i64 ((valB xs : Nat) : Int))) rfl hgrow
  have hB2 := (hB.alloc hB.size (.cells #[.iface 2 (.int .i64 ((valB xs : Nat) : Int))] 20)).grown hgrow (by have := hB.size; show _ ≤ (wr.alloc _).heap.size; simp; omega) (fun g hg => (HO.out.lt g hg).1)
  have HO2 := Lib.hid hown
  have HV2 := Lib.hid hV2
  have HB2 := Lib.hid hB2
  clear hown hgrow hV2 hB2
  (repeat (first | go_values | go_skip | go_guarded | go_step | go_upon))

  refine HN.out _ w1 _ (c - 6) v' _ ⟨rfl, rfl, rfl, rfl, rfl, rfl⟩ (by omega) (by omega) ?rd HB2.out HO2.out HV2.out
  case rd =>
    refine ⟨HM.out, ?_⟩
    rcases Nat.eq_zero_or_pos m with h | h
    · exact .inl (List.eq_nil_of_length_eq_zero (HM.out.trans h))
    · refine .inr ⟨b, o + 6, by rw [if_neg (by omega)], hlt, fun i x hx => ?_⟩
      refine (HB2.out.cell (p := ⟨b, o + 6 + i, none⟩) hlt).trans ((hB.cell (p := ⟨b, o + 6 + i, none⟩) hlt).symm.trans ?_)
      exact HRS.out i x hx

set_option maxRecDepth 100000 in
set_option maxHeartbeats 4000000 in
theorem round23_i6 (xs : List UInt8) (hxl : xs.length = 6) (h63 : valB xs < 9223372036854775808) : Round23 (82 :: xs) (.i64 (valB xs)) := by
  obtain ⟨i0, hi, hz0, hz1, hz2⟩ := info_parts info20
  intro K Q0 w wr a c j rest v vs ys s4 u hlc hc hl hk hr hB hO hx hV hnext
  obtain ⟨b, o, rfl, hlt, hcell⟩ : ∃ b o, a = some ⟨b, o, none⟩ ∧ b < w.heap.size ∧ ∀ (i : Nat) (x : UInt8), ((82 :: xs) ++ rest)[i]? = some x → wr.cell? ⟨b, o + i, none⟩ = some (.int .u8 (x.toNat : Int)) := by
    rcases hr.2 with h | h
    · cases h
    · exact h
  have hc0 : wr.cell? ⟨b, o, none⟩ = some (.int .u8 82) := hcell 0 82 rfl
  have hxs : ∀ (i : Nat) (x : UInt8), xs[i]? = some x → wr.cell? ⟨b, o + 1 + i, none⟩ = some (.int .u8 (x.toNat : Int)) := fun i x hi => by
    have hil : i < xs.length := (List.getElem?_eq_some_iff.1 hi).1
    have := hcell (i + 1) x (by rw [List.cons_append, List.getElem?_cons_succ, List.getElem?_append_left hil]; exact hi)
    rwa [show o + (i + 1) = o + 1 + i by omega] at this
  have hrs : ∀ (i : Nat) (x : UInt8), rest[i]? = some x → wr.cell? ⟨b, o + 7 + i, none⟩ = some (.int .u8 (x.toNat : Int)) := fun i x hi => by
    have := hcell (i + 7) x (by rw [List.getElem?_append_right (by simp; omega)]; simpa [hxl] using hi)
    rwa [show o + (i + 7) = o + 7 + i by omega] at this
  have hlen : ((82 :: xs) ++ rest).length = rest.length + 7 := by simp; omega
  rw [hlen] at hlc hl
  rw [hlen]
  have HXS := Lib.hid hxs
  have HRS := Lib.hid hrs
  have HN := Lib.hid hnext
  have HO := Lib.hid hO
  have HV := Lib.hid hV
  have HX := Lib.hid hx
  have HXL := Lib.hid hxl
  generalize hm : rest.length = m at *
  have HM := Lib.hid hm
  clear hr hcell hnext hlen hO hV hx hm hxs hrs hxl
  conv => arg 2; whnf
  unfold frm23
  (repeat (first | go_values | go_skip | go_guarded | go_step | go_upon))
  refine loopI _ wr b (o + 1) 6 _ xs HXL.out (by omega) h63 HXS.out _ _ _ _ _ _ ⟨rfl, rfl, rfl, rfl, rfl, rfl, rfl, rfl, rfl, rfl, rfl⟩ ?_
  intro a2 hs
  obtain ⟨u2, rfl⟩ := hs.frm
  clear hs hc0
  unfold frmI
  (repeat (first | (at_builtin; refine wpList_append_own _ rfl (.tmp 479) (.tmp 482) 54 rfl w.heap.size 20 i0 _ 1 16 Tryd.underlying54 hi hz0 hz1 hz2 rfl (by decide) _ j vs rfl ?own ⟨wr.heap.size, 0, none⟩ 1 1 [_] rfl rfl (by exact fun j u hj => (cell_new wr 20 _ j).trans hj) ?c2 ?c3 ?c4 ?c5 ?_) | go_values | go_skip | go_guarded | go_step | go_upon))
  case own => exact HO.out.alloc _
  case c2 => intro u hu; simp at hu; subst hu; rfl
  case c3 => unfold maxLen; omega
  case c4 => omega
  case c5 => have := hB.size; show _ ≤ (wr.alloc _).heap.size; simp; omega
  intro v' w1 hown hgrow _
  have hV2 := areV_snoc HO.out HX.out HV.out (x := .i64 (valB xs)) (u := .iface 2 (.int .i64 ((valB xs : Nat) : Int))) rfl hgrow
  have hB2 := (hB.alloc hB.size (.cells #[.iface 2 (.int .i64 ((valB xs : Nat) : Int))] 20)).grown hgrow (by have := hB.size; show _ ≤ (wr.alloc _).heap.size; simp; omega) (fun g hg => (HO.out.lt g hg).1)
  have HO2 := Lib.hid hown
  have HV2 := Lib.hid hV2
  have HB2 := Lib.hid hB2
  clear hown hgrow hV2 hB2
  (repeat (first | go_values | go_skip | go_guarded | go_step | go_upon))

  refine HN.out _ w1 _ (c - 7) v' _ ⟨rfl, rfl, rfl, rfl, rfl, rfl⟩ (by omega) (by omega) ?rd HB2.out HO2.out HV2.out
  case rd =>
    refine ⟨HM.out, ?_⟩
    rcases Nat.eq_zero_or_pos m with h | h
    · exact .inl (List.eq_nil_of_length_eq_zero (HM.out.trans h))
    · refine .inr ⟨b, o + 7, by rw [if_neg (by omega)], hlt, fun i x hx => ?_⟩
      refine (HB2.out.cell (p := ⟨b, o + 7 + i, none⟩) hlt).trans ((hB.cell (p := ⟨b, o + 7 + i, none⟩) hlt).symm.trans ?_)
      exact HRS.out i x hx

set_option maxRecDepth 100000 in
set_option maxHeartbeats 4000000 in
theorem round23_i7 (xs : List UInt8) (hxl : xs.length = 7) (h63 : valB xs < 9223372036854775808) : Round23 (83 :: xs) (.i64 (valB xs)) := by
  obtain ⟨i0, hi, hz0, hz1, hz2⟩ := info_parts info20
  intro K Q0 w wr a c j rest v vs ys s4 u hlc hc hl hk hr hB hO hx hV hnext
  obtain ⟨b, o, rfl, hlt, hcell⟩ : ∃ b o, a = some ⟨b, o, none⟩ ∧ b < w.heap.size ∧ ∀ (i : Nat) (x : UInt8), ((83 :: xs) ++ rest)[i]? = some x → wr.cell? ⟨b, o + i, none⟩ = some (.int .u8 (x.toNat : Int)) := by
    rcases hr.2 with h | h
    · cases h
    · exact h
  have hc0 : wr.cell? ⟨b, o, none⟩ = some (.int .u8 83) := hcell 0 83 rfl
  have hxs : ∀ (i : Nat) (x : UInt8), xs[i]? = some x → wr.cell? ⟨b, o + 1 + i, none⟩ = some (.int .u8 (x.toNat : Int)) := fun i x hi => by
    have hil : i < xs.length := (List.getElem?_eq_some_iff.1 hi).1
    have := hcell (i + 1) x (by rw [List.cons_append, List.getElem?_cons_succ, List.getElem?_append_left hil]; exact hi)
    rwa [show o + (i + 1) = o + 1 + i by omega] at this
  have hrs : ∀ (i : Nat) (x : UInt8), rest[i]? = some x → wr.cell? ⟨b, o + 8 + i, none⟩ = some (.int .u8 (x.toNat : Int)) := fun i x hi => by
    have := hcell (i + 8) x (by rw [List.getElem?_append_right (by simp; omega)]; simpa [hxl] using hi)
    rwa [show o + (i + 8) = o + 8 + i by omega] at this
  have hlen : ((83 :: xs) ++ rest).length = rest.length + 8 := by simp; omega
  rw [hlen] at hlc hl
  rw [hlen]
  have HXS := Lib.hid hxs
  have HRS := Lib.hid hrs
  have HN := Lib.hid hnext
  have HO := Lib.hid hO
  have HV := Lib.hid hV
  have HX := Lib.hid hx
  have HXL := Lib.hid hxl
  generalize hm : rest.length = m at *
  have HM := Lib.hid hm
  clear hr hcell hnext hlen hO hV hx hm hxs hrs hxl
  conv => arg 2; whnf
  unfold frm23
  (repeat (first | go_values | go_skip | go_guarded | go_step | go_upon))
  refine loopI _ wr b (o + 1) 7 _ xs HXL.out (by omega) h63 HXS.out _ _ _ _ _ _ ⟨rfl, rfl, rfl, rfl, rfl, rfl, rfl, rfl, rfl, rfl, rfl⟩ ?_
  intro a2 hs
  obtain ⟨u2, rfl⟩ := hs.frm
  clear hs hc0
  unfold frmI
  (repeat (first | (at_builtin; refine wpList_append_own _ rfl (.tmp 479) (.tmp 482) 54 rfl w.heap.size 20 i0 _ 1 16 Tryd.underlying54 hi hz0 hz1 hz2 rfl (by decide) _ j vs rfl ?own ⟨wr.heap.size, 0, none⟩ 1 1 [_] rfl rfl (by exact fun j u hj => (cell_new wr 20 _ j).trans hj) ?c2 ?c3 ?c4 ?c5 ?_) | go_values | go_skip | go_guarded | go_step | go_upon))
  case own => exact HO.out.alloc _
  case c2 => intro u hu; simp at hu; subst hu; rfl
  case c3 => unfold maxLen; omega
  case c4 => omega
  case c5 => have := hB.size; show _ ≤ (wr.alloc _).heap.size; simp; omega
  intro v' w1 hown hgrow _
  have hV2 := areV_snoc HO.out HX.out HV.out (x := .i64 (valB xs)) (u := .iface 2 (.int .i64 ((valB xs : Nat) : Int))) rfl hgrow
  have hB2 := (hB.alloc hB.size (.cells #[.iface 2 (.int .i64 ((valB xs : Nat) : Int))] 20)).grown hgrow (by have := hB.size; show _ ≤ (wr.alloc _).heap.size; simp; omega) (fun g hg => (HO.out.lt g hg).1)
  have HO2 := Lib.hid hown
  have HV2 := Lib.hid hV2
  have HB2 := Lib.hid hB2
  clear hown hgrow hV2 hB2
  (repeat (first | go_values | go_skip | go_guarded | go_step | go_upon))

  refine HN.out _ w1 _ (c - 8) v' _ ⟨rfl, rfl, rfl, rfl, rfl, rfl⟩ (by omega) (by omega) ?rd HB2.out HO2.out HV2.out
  case rd =>
    refine ⟨HM.out, ?_⟩
    rcases Nat.eq_zero_or_pos m with h | h
    · exact .inl (List.eq_nil_of_length_eq_zero (HM.out.trans h))
    · refine .inr ⟨b, o + 8, by rw [if_neg (by omega)], hlt, fun i x hx => ?_⟩
      refine (HB2.out.cell (p := ⟨b, o + 8 + i, none⟩) hlt).trans ((hB.cell (p := ⟨b, o + 8 + i, none⟩) hlt).symm.trans ?_)
      exact HRS.out i x hx

set_option maxRecDepth 100000 in
set_option maxHeartbeats 4000000 in
theorem round23_i8 (xs : List UInt8) (hxl : xs.length = 8) (h63 : valB xs < 9223372036854775808) : Round23 (84 :: xs) (.i64 (valB xs)) := by
  obtain ⟨i0, hi, hz0, hz1, hz2⟩ := info_parts info20
  intro K Q0 w wr a c j rest v vs ys s4 u hlc hc hl hk hr hB hO hx hV hnext
  obtain ⟨b, o, rfl, hlt, hcell⟩ : ∃ b o, a = some ⟨b, o, none⟩ ∧ b < w.heap.size ∧ ∀ (i : Nat) (x : UInt8), ((84 :: xs) ++ rest)[i]? = some x → wr.cell? ⟨b, o + i, none⟩ = some (.int .u8 (x.toNat : Int)) := by
    rcases hr.2 with h | h
    · cases h
    · exact h
  have hc0 : wr.cell? ⟨b, o, none⟩ = some (.int .u8 84) := hcell 0 84 rfl
  have hxs : ∀ (i : Nat) (x : UInt8), xs[i]? = some x → wr.cell? ⟨b, o + 1 + i, none⟩ = some (.int .u8 (x.toNat : Int)) := fun i x hi => by
    have hil : i < xs.length := (List.getElem?_eq_some_iff.1 hi).1
    have := hcell (i + 1) x (by rw [List.cons_append, List.getElem?_cons_succ, List.getElem?_append_left hil]; exact hi)
    rwa [show o + (i + 1) = o + 1 + i by omega] at this
  have hrs : ∀ (i : Nat) (x : UInt8), rest[i]? = some x → wr.cell? ⟨b, o + 9 + i, none⟩ = some (.int .u8 (x.toNat : Int)) := fun i x hi => by
    have := hcell (i + 9) x (by rw [List.getElem?_append_right (by simp; omega)]; simpa [hxl] using hi)
    rwa [show o + (i + 9) = o + 9 + i by omega] at this
  have hlen : ((84 :: xs) ++ rest).length = rest.length + 9 := by simp; omega
  rw [hlen] at hlc hl
  rw [hlen]
  have HXS := Lib.hid hxs
  have HRS := Lib.hid hrs
  have HN := Lib.hid hnext
  have HO := Lib.hid hO
  have HV := Lib.hid hV
  have HX := Lib.hid hx
  have HXL := Lib.hid hxl
  generalize hm : rest.length = m at *
  have HM := Lib.hid hm
  clear hr hcell hnext hlen hO hV hx hm hxs hrs hxl
  conv => arg 2; whnf
  unfold frm23
  (repeat (first | go_values | go_skip | go_guarded | go_step | go_upon))
  refine loopI _ wr b (o + 1) 8 _ xs HXL.out (by omega) h63 HXS.out _ _ _ _ _ _ ⟨rfl, rfl, rfl, rfl, rfl, rfl, rfl, rfl, rfl, rfl, rfl⟩ ?_
  intro a2 hs
  obtain ⟨u2, rfl⟩ := hs.frm
  clear hs hc0
  unfold frmI
  (repeat (first | (at_builtin; refine wpList_append_own _ rfl (.tmp 479) (.tmp 482) 54 rfl w.heap.size 20 i0 _ 1 16 Tryd.underlying54 hi hz0 hz1 hz2 rfl (by decide) _ j vs rfl ?own ⟨wr.heap.size, 0, none⟩ 1 1 [_] rfl rfl (by exact fun j u hj => (cell_new wr 20 _ j).trans hj) ?c2 ?c3 ?c4 ?c5 ?_) | go_values | go_skip | go_guarded | go_step | go_upon))
  case own => exact HO.out.alloc _
  case c2 => intro u hu; simp at hu; subst hu; rfl
  case c3 => unfold maxLen; omega
  case c4 => omega
  case c5 => have := hB.size; show _ ≤ (wr.alloc _).heap.size; simp; omega
  intro v' w1 hown hgrow _
  have hV2 := areV_snoc HO.out HX.out HV.out (x := .i64 (valB xs)) (u := .iface 2 (.int .i64 ((valB xs : Nat) : Int))) rfl hgrow
  have hB2 := (hB.alloc hB.size (.cells #[.iface 2 (.int .i64 ((valB xs : Nat) : Int))] 20)).grown hgrow (by have := hB.size; show _ ≤ (wr.alloc _).heap.size; simp; omega) (fun g hg => (HO.out.lt g hg).1)
  have HO2 := Lib.hid hown
  have HV2 := Lib.hid hV2
  have HB2 := Lib.hid hB2
  clear hown hgrow hV2 hB2
  (repeat (first | go_values | go_skip | go_guarded | go_step | go_upon))

  refine HN.out _ w1 _ (c - 9) v' _ ⟨rfl, rfl, rfl, rfl, rfl, rfl⟩ (by omega) (by omega) ?rd HB2.out HO2.out HV2.out
  case rd =>
    refine ⟨HM.out, ?_⟩
    rcases Nat.eq_zero_or_pos m with h | h
    · exact .inl (List.eq_nil_of_length_eq_zero (HM.out.trans h))
    · refine .inr ⟨b, o + 9, by rw [if_neg (by omega)], hlt, fun i x hx => ?_⟩
      refine (HB2.out.cell (p := ⟨b, o + 9 + i, none⟩) hlt).trans ((hB.cell (p := ⟨b, o + 9 + i, none⟩) hlt).symm.trans ?_)
      exact HRS.out i x hx

end Go.Proofs.YtaoonpncnahhgaaDoor
