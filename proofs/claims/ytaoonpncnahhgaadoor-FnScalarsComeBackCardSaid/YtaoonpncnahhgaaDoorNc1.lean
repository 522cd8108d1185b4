/-
  The rounds of DecodeScalars over nil, bools, nought and complex numbers: first tags 12, 13, 14, 15, 16.
-/
import Derived.Test.YtaoonpncnahhgaaDoorD10
namespace Go.Proofs.YtaoonpncnahhgaaDoor
open Go.RowKit

set_option maxRecDepth 100000 in
set_option maxHeartbeats 4000000 in
theorem round23_k0 : Round23 [0] (.nil) := by
  obtain ⟨i0, hi, hz0, hz1, hz2⟩ := info_parts info20
  intro K Q0 w wr a c j rest v vs ys s4 u hlc hc hl hk hr hB hO hx hV hnext
  obtain ⟨b, o, rfl, hlt, hcell⟩ : ∃ b o, a = some ⟨b, o, none⟩ ∧ b < w.heap.size ∧ ∀ (i : Nat) (x : UInt8), ([0] ++ rest)[i]? = some x → wr.cell? ⟨b, o + i, none⟩ = some (.int .u8 (x.toNat : Int)) := by
    rcases hr.2 with h | h
    · cases h
    · exact h
  have hc0 : wr.cell? ⟨b, o, none⟩ = some (.int .u8 0) := hcell 0 0 rfl
  have hrs : ∀ (i : Nat) (x : UInt8), rest[i]? = some x → wr.cell? ⟨b, o + 1 + i, none⟩ = some (.int .u8 (x.toNat : Int)) := fun i x hi => by
    have := hcell (i + 1) x hi
    rwa [show o + (i + 1) = o + 1 + i by omega] at this
  have hlen : ([0] ++ rest).length = rest.length + 1 := by simp
  rw [hlen] at hlc hl
  rw [hlen]
  have HRS := Lib.hid hrs
  have HN := Lib.hid hnext
  have HO := Lib.hid hO
  have HV := Lib.hid hV
  have HX := Lib.hid hx
  generalize hm : rest.length = m at *
  have HM := Lib.hid hm
  clear hr hcell hnext hlen hO hV hx hm hrs
  conv => arg 2; whnf
  unfold frm23
  (repeat (first | (at_builtin; refine wpList_append_own _ rfl (.tmp 48) (.tmp 49) 54 rfl w.heap.size 20 i0 _ 1 16 Tryd.underlying54 hi hz0 hz1 hz2 rfl (by decide) _ j vs rfl ?own ⟨wr.heap.size, 0, none⟩ 1 1 [_] rfl rfl (by exact fun j u hj => (cell_new wr 20 _ j).trans hj) ?c2 ?c3 ?c4 ?c5 ?_) | go_values | go_skip | go_guarded | go_step | go_upon))
  case own => exact HO.out.alloc _
  case c2 => intro u hu; simp at hu; subst hu; rfl
  case c3 => unfold maxLen; omega
  case c4 => omega
  case c5 => have := hB.size; show _ ≤ (wr.alloc _).heap.size; simp; omega
  intro v' w1 hown hgrow _
  have hV2 := areV_snoc HO.out HX.out HV.out (x := .nil) (u := .nilIface) rfl hgrow
  have hB2 := (hB.alloc hB.size (.cells #[.nilIface] 20)).grown hgrow (by have := hB.size; show _ ≤ (wr.alloc _).heap.size; simp; omega) (fun g hg => (HO.out.lt g hg).1)
  have HO2 := Lib.hid hown
  have HV2 := Lib.hid hV2
  have HB2 := Lib.hid hB2
  clear hown hgrow hV2 hB2
  (repeat (first | go_values | go_skip | go_guarded | go_step | go_upon))
  refine HN.out _ w1 _ (c - 1) v' _ ⟨rfl, rfl, rfl, rfl, rfl, rfl⟩ (by omega) (by omega) ?rd HB2.out HO2.out HV2.out
  case rd =>
    refine ⟨HM.out, ?_⟩
    rcases Nat.eq_zero_or_pos m with h | h
    · exact .inl (List.eq_nil_of_length_eq_zero (HM.out.trans h))
    · refine .inr ⟨b, o + 1, by rw [if_neg (by omega)], hlt, fun i x hx => ?_⟩
      refine (HB2.out.cell (p := ⟨b, o + 1 + i, none⟩) hlt).trans ((hB.cell (p := ⟨b, o + 1 + i, none⟩) hlt).symm.trans ?_)
      exact HRS.out i x hx

set_option maxRecDepth 100000 in
set_option maxHeartbeats 4000000 in
theorem round23_k1 : Round23 [1] (.bool false) := by
  obtain ⟨i0, hi, hz0, hz1, hz2⟩ := info_parts info20
  intro K Q0 w wr a c j rest v vs ys s4 u hlc hc hl hk hr hB hO hx hV hnext
  obtain ⟨b, o, rfl, hlt, hcell⟩ : ∃ b o, a = some ⟨b, o, none⟩ ∧ b < w.heap.size ∧ ∀ (i : Nat) (x : UInt8), ([1] ++ rest)[i]? = some x → wr.cell? ⟨b, o + i, none⟩ = some (.int .u8 (x.toNat : Int)) := by
    rcases hr.2 with h | h
    · cases h
    · exact h
  have hc0 : wr.cell? ⟨b, o, none⟩ = some (.int .u8 1) := hcell 0 1 rfl
  have hrs : ∀ (i : Nat) (x : UInt8), rest[i]? = some x → wr.cell? ⟨b, o + 1 + i, none⟩ = some (.int .u8 (x.toNat : Int)) := fun i x hi => by
    have := hcell (i + 1) x hi
    rwa [show o + (i + 1) = o + 1 + i by omega] at this
  have hlen : ([1] ++ rest).length = rest.length + 1 := by simp
  rw [hlen] at hlc hl
  rw [hlen]
  have HRS := Lib.hid hrs
  have HN := Lib.hid hnext
  have HO := Lib.hid hO
  have HV := Lib.hid hV
  have HX := Lib.hid hx
  generalize hm : rest.length = m at *
  have HM := Lib.hid hm
  clear hr hcell hnext hlen hO hV hx hm hrs
  conv => arg 2; whnf
  unfold frm23
  (repeat (first | (at_builtin; refine wpList_append_own _ rfl (.tmp 55) (.tmp 57) 54 rfl w.heap.size 20 i0 _ 1 16 Tryd.underlying54 hi hz0 hz1 hz2 rfl (by decide) _ j vs rfl ?own ⟨wr.heap.size, 0, none⟩ 1 1 [_] rfl rfl (by exact fun j u hj => (cell_new wr 20 _ j).trans hj) ?c2 ?c3 ?c4 ?c5 ?_) | go_values | go_skip | go_guarded | go_step | go_upon))
  case own => exact HO.out.alloc _
  case c2 => intro u hu; simp at hu; subst hu; rfl
  case c3 => unfold maxLen; omega
  case c4 => omega
  case c5 => have := hB.size; show _ ≤ (wr.alloc _).heap.size; simp; omega
  intro v' w1 hown hgrow _
  have hV2 := areV_snoc HO.out HX.out HV.out (x := .bool false) (u := .iface 4 (.bool false)) rfl hgrow
  have hB2 := (hB.alloc hB.size (.cells #[.iface 4 (.bool false)] 20)).grown hgrow (by have := hB.size; show _ ≤ (wr.alloc _).heap.size; simp; omega) (fun g hg => (HO.out.lt g hg).1)
  have HO2 := Lib.hid hown
  have HV2 := Lib.hid hV2
  have HB2 := Lib.hid hB2
  clear hown hgrow hV2 hB2
  (repeat (first | go_values | go_skip | go_guarded | go_step | go_upon))
  refine HN.out _ w1 _ (c - 1) v' _ ⟨rfl, rfl, rfl, rfl, rfl, rfl⟩ (by omega) (by omega) ?rd HB2.out HO2.out HV2.out
  case rd =>
    refine ⟨HM.out, ?_⟩
    rcases Nat.eq_zero_or_pos m with h | h
    · exact .inl (List.eq_nil_of_length_eq_zero (HM.out.trans h))
    · refine .inr ⟨b, o + 1, by rw [if_neg (by omega)], hlt, fun i x hx => ?_⟩
      refine (HB2.out.cell (p := ⟨b, o + 1 + i, none⟩) hlt).trans ((hB.cell (p := ⟨b, o + 1 + i, none⟩) hlt).symm.trans ?_)
      exact HRS.out i x hx

set_option maxRecDepth 100000 in
set_option maxHeartbeats 4000000 in
theorem round23_k2 : Round23 [2] (.bool true) := by
  obtain ⟨i0, hi, hz0, hz1, hz2⟩ := info_parts info20
  intro K Q0 w wr a c j rest v vs ys s4 u hlc hc hl hk hr hB hO hx hV hnext
  obtain ⟨b, o, rfl, hlt, hcell⟩ : ∃ b o, a = some ⟨b, o, none⟩ ∧ b < w.heap.size ∧ ∀ (i : Nat) (x : UInt8), ([2] ++ rest)[i]? = some x → wr.cell? ⟨b, o + i, none⟩ = some (.int .u8 (x.toNat : Int)) := by
    rcases hr.2 with h | h
    · cases h
    · exact h
  have hc0 : wr.cell? ⟨b, o, none⟩ = some (.int .u8 2) := hcell 0 2 rfl
  have hrs : ∀ (i : Nat) (x : UInt8), rest[i]? = some x → wr.cell? ⟨b, o + 1 + i, none⟩ = some (.int .u8 (x.toNat : Int)) := fun i x hi => by
    have := hcell (i + 1) x hi
    rwa [show o + (i + 1) = o + 1 + i by omega] at this
  have hlen : ([2] ++ rest).length = rest.length + 1 := by simp
  rw [hlen] at hlc hl
  rw [hlen]
  have HRS := Lib.hid hrs
  have HN := Lib.hid hnext
  have HO := Lib.hid hO
  have HV := Lib.hid hV
  have HX := Lib.hid hx
  generalize hm : rest.length = m at *
  have HM := Lib.hid hm
  clear hr hcell hnext hlen hO hV hx hm hrs
  conv => arg 2; whnf
  unfold frm23
  (repeat (first | (at_builtin; refine wpList_append_own _ rfl (.tmp 63) (.tmp 65) 54 rfl w.heap.size 20 i0 _ 1 16 Tryd.underlying54 hi hz0 hz1 hz2 rfl (by decide) _ j vs rfl ?own ⟨wr.heap.size, 0, none⟩ 1 1 [_] rfl rfl (by exact fun j u hj => (cell_new wr 20 _ j).trans hj) ?c2 ?c3 ?c4 ?c5 ?_) | go_values | go_skip | go_guarded | go_step | go_upon))
  case own => exact HO.out.alloc _
  case c2 => intro u hu; simp at hu; subst hu; rfl
  case c3 => unfold maxLen; omega
  case c4 => omega
  case c5 => have := hB.size; show _ ≤ (wr.alloc _).heap.size; simp; omega
  intro v' w1 hown hgrow _
  have hV2 := areV_snoc HO.out HX.out HV.out (x := .bool true) (u := .iface 4 (.bool true)) rfl hgrow
  have hB2 := (hB.alloc hB.size (.cells #[.iface 4 (.bool true)] 20)).grown hgrow (by have := hB.size; show _ ≤ (wr.alloc _).heap.size; simp; omega) (fun g hg => (HO.out.lt g hg).1)
  have HO2 := Lib.hid hown
  have HV2 := Lib.hid hV2
  have HB2 := Lib.hid hB2
  clear hown hgrow hV2 hB2
  (repeat (first | go_values | go_skip | go_guarded | go_step | go_upon))
  refine HN.out _ w1 _ (c - 1) v' _ ⟨rfl, rfl, rfl, rfl, rfl, rfl⟩ (by omega) (by omega) ?rd HB2.out HO2.out HV2.out
  case rd =>
    refine ⟨HM.out, ?_⟩
    rcases Nat.eq_zero_or_pos m with h | h
    · exact .inl (List.eq_nil_of_length_eq_zero (HM.out.trans h))
    · refine .inr ⟨b, o + 1, by rw [if_neg (by omega)], hlt, fun i x hx => ?_⟩
      refine (HB2.out.cell (p := ⟨b, o + 1 + i, none⟩) hlt).trans ((hB.cell (p := ⟨b, o + 1 + i, none⟩) hlt).symm.trans ?_)
      exact HRS.out i x hx

set_option maxRecDepth 100000 in
set_option maxHeartbeats 4000000 in
theorem round23_k3 : Round23 [3] (.f64 0) := by
  obtain ⟨i0, hi, hz0, hz1, hz2⟩ := info_parts info20
  intro K Q0 w wr a c j rest v vs ys s4 u hlc hc hl hk hr hB hO hx hV hnext
  obtain ⟨b, o, rfl, hlt, hcell⟩ : ∃ b o, a = some ⟨b, o, none⟩ ∧ b < w.heap.size ∧ ∀ (i : Nat) (x : UInt8), ([3] ++ rest)[i]? = some x → wr.cell? ⟨b, o + i, none⟩ = some (.int .u8 (x.toNat : Int)) := by
    rcases hr.2 with h | h
    · cases h
    · exact h
  have hc0 : wr.cell? ⟨b, o, none⟩ = some (.int .u8 3) := hcell 0 3 rfl
  have hrs : ∀ (i : Nat) (x : UInt8), rest[i]? = some x → wr.cell? ⟨b, o + 1 + i, none⟩ = some (.int .u8 (x.toNat : Int)) := fun i x hi => by
    have := hcell (i + 1) x hi
    rwa [show o + (i + 1) = o + 1 + i by omega] at this
  have hlen : ([3] ++ rest).length = rest.length + 1 := by simp
  rw [hlen] at hlc hl
  rw [hlen]
  have HRS := Lib.hid hrs
  have HN := Lib.hid hnext
  have HO := Lib.hid hO
  have HV := Lib.hid hV
  have HX := Lib.hid hx
  generalize hm : rest.length = m at *
  have HM := Lib.hid hm
  clear hr hcell hnext hlen hO hV hx hm hrs
  conv => arg 2; whnf
  unfold frm23
  (repeat (first | (at_builtin; refine wpList_append_own _ rfl (.tmp 71) (.tmp 73) 54 rfl w.heap.size 20 i0 _ 1 16 Tryd.underlying54 hi hz0 hz1 hz2 rfl (by decide) _ j vs rfl ?own ⟨wr.heap.size, 0, none⟩ 1 1 [_] rfl rfl (by exact fun j u hj => (cell_new wr 20 _ j).trans hj) ?c2 ?c3 ?c4 ?c5 ?_) | go_values | go_skip | go_guarded | go_step | go_upon))
  case own => exact HO.out.alloc _
  case c2 => intro u hu; simp at hu; subst hu; rfl
  case c3 => unfold maxLen; omega
  case c4 => omega
  case c5 => have := hB.size; show _ ≤ (wr.alloc _).heap.size; simp; omega
  intro v' w1 hown hgrow _
  have hV2 := areV_snoc HO.out HX.out HV.out (x := .f64 0) (u := .iface 76 (.float .f64 0)) rfl hgrow
  have hB2 := (hB.alloc hB.size (.cells #[.iface 76 (.float .f64 0)] 20)).grown hgrow (by have := hB.size; show _ ≤ (wr.alloc _).heap.size; simp; omega) (fun g hg => (HO.out.lt g hg).1)
  have HO2 := Lib.hid hown
  have HV2 := Lib.hid hV2
  have HB2 := Lib.hid hB2
  clear hown hgrow hV2 hB2
  (repeat (first | go_values | go_skip | go_guarded | go_step | go_upon))
  refine HN.out _ w1 _ (c - 1) v' _ ⟨rfl, rfl, rfl, rfl, rfl, rfl⟩ (by omega) (by omega) ?rd HB2.out HO2.out HV2.out
  case rd =>
    refine ⟨HM.out, ?_⟩
    rcases Nat.eq_zero_or_pos m with h | h
    · exact .inl (List.eq_nil_of_length_eq_zero (HM.out.trans h))
    · refine .inr ⟨b, o + 1, by rw [if_neg (by omega)], hlt, fun i x hx => ?_⟩
      refine (HB2.out.cell (p := ⟨b, o + 1 + i, none⟩) hlt).trans ((hB.cell (p := ⟨b, o + 1 + i, none⟩) hlt).symm.trans ?_)
      exact HRS.out i x hx

set_option maxRecDepth 100000 in
set_option maxHeartbeats 4000000 in
theorem round23_c0_0 (xs ys2 : List UInt8) (hxl : xs.length = 0) (hyl : ys2.length = 0) (X Y : Nat) (hD : DecF 0 xs X) (hE : DecF 0 ys2 Y) : Round23 ((12 :: xs) ++ (12 :: ys2)) (.c128 X Y) := by
  obtain ⟨i0, hi, hz0, hz1, hz2⟩ := info_parts info20
  intro K Q0 w wr a c j rest v vs ys s4 u hlc hc hl hk hr hB hO hx hV hnext
  obtain ⟨b, o, rfl, hlt, hcell⟩ : ∃ b o, a = some ⟨b, o, none⟩ ∧ b < w.heap.size ∧ ∀ (i : Nat) (x : UInt8), (((12 :: xs) ++ (12 :: ys2)) ++ rest)[i]? = some x → wr.cell? ⟨b, o + i, none⟩ = some (.int .u8 (x.toNat : Int)) := by
    rcases hr.2 with h | h
    · cases h
    · exact h
  have hc0 : wr.cell? ⟨b, o, none⟩ = some (.int .u8 12) := hcell 0 12 rfl
  have hxs : ∀ (i : Nat) (x : UInt8), xs[i]? = some x → wr.cell? ⟨b, o + 1 + i, none⟩ = some (.int .u8 (x.toNat : Int)) := fun i x hi => by
    have hil : i < xs.length := (List.getElem?_eq_some_iff.1 hi).1
    have := hcell (i + 1) x (by rw [List.append_assoc, List.cons_append, List.getElem?_cons_succ, List.getElem?_append_left hil]; exact hi)
    rwa [show o + (i + 1) = o + 1 + i by omega] at this
  have hc1 : wr.cell? ⟨b, o + 1, none⟩ = some (.int .u8 12) := by
    have := hcell 1 (12) (by rw [List.append_assoc, List.getElem?_append_right (by simp only [List.length_cons]; omega)]; simp only [List.length_cons, hxl]; rfl)
    exact this
  have hys : ∀ (i : Nat) (x : UInt8), ys2[i]? = some x → wr.cell? ⟨b, o + 1 + 1 + i, none⟩ = some (.int .u8 (x.toNat : Int)) := fun i x hi => by
    have hil : i < ys2.length := (List.getElem?_eq_some_iff.1 hi).1
    have := hcell (i + 2) x (by
      rw [List.append_assoc, List.getElem?_append_right (by simp only [List.length_cons]; omega)]
      simp only [List.length_cons, hxl]
      rw [show i + 2 - (0 + 1) = i + 1 by omega, List.cons_append, List.getElem?_cons_succ, List.getElem?_append_left hil]
      exact hi)
    rwa [show o + (i + 2) = o + 1 + 1 + i by omega] at this
  have hch : ((12 :: xs) ++ (12 :: ys2)).length = 2 := by simp only [List.length_append, List.length_cons]; omega
  have hrs : ∀ (i : Nat) (x : UInt8), rest[i]? = some x → wr.cell? ⟨b, o + (2) + i, none⟩ = some (.int .u8 (x.toNat : Int)) := fun i x hi => by
    have := hcell (i + (2)) x (by rw [List.getElem?_append_right (by omega), hch, Nat.add_sub_cancel]; exact hi)
    rwa [show o + (i + (2)) = o + (2) + i by omega] at this
  have hlen : (((12 :: xs) ++ (12 :: ys2)) ++ rest).length = rest.length + (2) := by rw [List.length_append, hch, Nat.add_comm]
  rw [hlen] at hlc hl
  rw [hlen]
  have HXS := Lib.hid hxs
  have HYS := Lib.hid hys
  have HRS := Lib.hid hrs
  have HN := Lib.hid hnext
  have HO := Lib.hid hO
  have HV := Lib.hid hV
  have HX := Lib.hid hx
  have HXL := Lib.hid hxl
  have HYL := Lib.hid hyl
  have HD := Lib.hid hD
  have HE := Lib.hid hE
  generalize hm : rest.length = m at *
  have HM := Lib.hid hm
  clear hr hcell hnext hlen hO hV hx hm hxs hys hrs hxl hyl hD hE hch
  conv => arg 2; whnf
  unfold frm23
  (repeat (first | go_values | go_skip | go_guarded | go_step | go_upon))
  refine (HD.out wr _ _ ⟨HXL.out, .inl (List.eq_nil_of_length_eq_zero HXL.out)⟩).mono ?_
  rintro e w2 ⟨rfl, rfl⟩
  dsimp only
  (repeat (first | go_values | go_skip | go_guarded | go_step | go_upon))
  refine (HE.out w2 _ _ ⟨HYL.out, .inl (List.eq_nil_of_length_eq_zero HYL.out)⟩).mono ?_
  rintro e w3 ⟨rfl, rfl⟩
  dsimp only
  (repeat (first | (at_builtin; refine wpList_append_own _ rfl (.tmp 153) (.tmp 161) 54 rfl w.heap.size 20 i0 _ 1 16 Tryd.underlying54 hi hz0 hz1 hz2 rfl (by decide) _ j vs rfl ?own ⟨w3.heap.size, 0, none⟩ 1 1 [_] rfl rfl (by exact fun j u hj => (cell_new w3 20 _ j).trans hj) ?c2 ?c3 ?c4 ?c5 ?_) | go_values | go_skip | go_guarded | go_step | go_upon))
  case own => exact HO.out.alloc _
  case c2 => intro u hu; simp at hu; subst hu; rfl
  case c3 => unfold maxLen; omega
  case c4 => omega
  case c5 => have := hB.size; show _ ≤ (w3.alloc _).heap.size; simp; omega
  intro v' w1 hown hgrow _
  have hV2 := areV_snoc HO.out HX.out HV.out (x := .c128 X Y) (u := .iface 80 (.complex .f64 X Y)) rfl hgrow
  have hB2 := (hB.alloc hB.size (.cells #[.iface 80 (.complex .f64 X Y)] 20)).grown hgrow (by have := hB.size; show _ ≤ (w3.alloc _).heap.size; simp; omega) (fun g hg => (HO.out.lt g hg).1)
  have HO2 := Lib.hid hown
  have HV2 := Lib.hid hV2
  have HB2 := Lib.hid hB2
  clear hown hgrow hV2 hB2
  (repeat (first | go_values | go_skip | go_guarded | go_step | go_upon))
  skip
  skip
  refine HN.out _ w1 _ (c - 1 - 1) v' _ ⟨rfl, rfl, rfl, rfl, rfl, rfl⟩ (by omega) (by omega) ?rd HB2.out HO2.out HV2.out
  case rd =>
    refine ⟨HM.out, ?_⟩
    rcases Nat.eq_zero_or_pos m with h | h
    · exact .inl (List.eq_nil_of_length_eq_zero (HM.out.trans h))
    · refine .inr ⟨b, o + (2), by rw [if_neg (by omega)], hlt, fun i x hx => ?_⟩
      refine (HB2.out.cell (p := ⟨b, o + (2) + i, none⟩) hlt).trans ((hB.cell (p := ⟨b, o + (2) + i, none⟩) hlt).symm.trans ?_)
      exact HRS.out i x hx

set_option maxRecDepth 100000 in
set_option maxHeartbeats 4000000 in
theorem round23_c0_1 (xs ys2 : List UInt8) (hxl : xs.length = 0) (n2 : Nat) (hn1 : 1 ≤ n2) (hn8 : n2 ≤ 8) (hyl : ys2.length = n2) (X Y : Nat) (hD : DecF 0 xs X) (hE : DecF n2 ys2 Y) : Round23 ((12 :: xs) ++ (UInt8.ofNat (12 + n2) :: ys2)) (.c128 X Y) := by
  obtain ⟨i0, hi, hz0, hz1, hz2⟩ := info_parts info20
  intro K Q0 w wr a c j rest v vs ys s4 u hlc hc hl hk hr hB hO hx hV hnext
  obtain ⟨b, o, rfl, hlt, hcell⟩ : ∃ b o, a = some ⟨b, o, none⟩ ∧ b < w.heap.size ∧ ∀ (i : Nat) (x : UInt8), (((12 :: xs) ++ (UInt8.ofNat (12 + n2) :: ys2)) ++ rest)[i]? = some x → wr.cell? ⟨b, o + i, none⟩ = some (.int .u8 (x.toNat : Int)) := by
    rcases hr.2 with h | h
    · cases h
    · exact h
  have hc0 : wr.cell? ⟨b, o, none⟩ = some (.int .u8 12) := hcell 0 12 rfl
  have hxs : ∀ (i : Nat) (x : UInt8), xs[i]? = some x → wr.cell? ⟨b, o + 1 + i, none⟩ = some (.int .u8 (x.toNat : Int)) := fun i x hi => by
    have hil : i < xs.length := (List.getElem?_eq_some_iff.1 hi).1
    have := hcell (i + 1) x (by rw [List.append_assoc, List.cons_append, List.getElem?_cons_succ, List.getElem?_append_left hil]; exact hi)
    rwa [show o + (i + 1) = o + 1 + i by omega] at this
  have hc1 : wr.cell? ⟨b, o + 1, none⟩ = some (.int .u8 (12 + (n2 : Int))) := by
    have := hcell 1 (UInt8.ofNat (12 + n2)) (by rw [List.append_assoc, List.getElem?_append_right (by simp only [List.length_cons]; omega)]; simp only [List.length_cons, hxl]; rfl)
    rwa [show ((UInt8.ofNat (12 + n2)).toNat : Int) = 12 + (n2 : Int) by rw [UInt8.toNat_ofNat']; omega] at this
  obtain ⟨T, hT⟩ : ∃ T : Int, 12 + (n2 : Int) = T := ⟨_, rfl⟩
  rw [hT] at hc1
  have hT1 : (T < 12) = False := by rw [eq_iff_iff, iff_false]; omega
  have hT2 : (20 < T) = False := by rw [eq_iff_iff, iff_false]; omega
  have hT3 : 12 ≤ T := by omega
  have hT4 : T ≤ 20 := by omega
  have hTn : 1 + T - 12 = (n2 : Int) + 1 := by omega
  clear hT
  have hys : ∀ (i : Nat) (x : UInt8), ys2[i]? = some x → wr.cell? ⟨b, o + 1 + 1 + i, none⟩ = some (.int .u8 (x.toNat : Int)) := fun i x hi => by
    have hil : i < ys2.length := (List.getElem?_eq_some_iff.1 hi).1
    have := hcell (i + 2) x (by
      rw [List.append_assoc, List.getElem?_append_right (by simp only [List.length_cons]; omega)]
      simp only [List.length_cons, hxl]
      rw [show i + 2 - (0 + 1) = i + 1 by omega, List.cons_append, List.getElem?_cons_succ, List.getElem?_append_left hil]
      exact hi)
    rwa [show o + (i + 2) = o + 1 + 1 + i by omega] at this
  have hch : ((12 :: xs) ++ (UInt8.ofNat (12 + n2) :: ys2)).length = 2 + n2 := by simp only [List.length_append, List.length_cons]; omega
  have hrs : ∀ (i : Nat) (x : UInt8), rest[i]? = some x → wr.cell? ⟨b, o + (2 + n2) + i, none⟩ = some (.int .u8 (x.toNat : Int)) := fun i x hi => by
    have := hcell (i + (2 + n2)) x (by rw [List.getElem?_append_right (by omega), hch, Nat.add_sub_cancel]; exact hi)
    rwa [show o + (i + (2 + n2)) = o + (2 + n2) + i by omega] at this
  have hlen : (((12 :: xs) ++ (UInt8.ofNat (12 + n2) :: ys2)) ++ rest).length = rest.length + (2 + n2) := by rw [List.length_append, hch, Nat.add_comm]
  rw [hlen] at hlc hl
  rw [hlen]
  have HXS := Lib.hid hxs
  have HYS := Lib.hid hys
  have HRS := Lib.hid hrs
  have HN := Lib.hid hnext
  have HO := Lib.hid hO
  have HV := Lib.hid hV
  have HX := Lib.hid hx
  have HXL := Lib.hid hxl
  have HYL := Lib.hid hyl
  have HD := Lib.hid hD
  have HE := Lib.hid hE
  generalize hm : rest.length = m at *
  have HM := Lib.hid hm
  clear hr hcell hnext hlen hO hV hx hm hxs hys hrs hxl hyl hD hE hch
  conv => arg 2; whnf
  unfold frm23
  (repeat (first | go_values | go_skip | go_guarded | go_step | go_upon))
  refine (HD.out wr _ _ ⟨HXL.out, .inl (List.eq_nil_of_length_eq_zero HXL.out)⟩).mono ?_
  rintro e w2 ⟨rfl, rfl⟩
  dsimp only
  (repeat (first | go_values | go_skip | go_guarded | go_step | go_upon))
  refine (HE.out w2 _ _ ⟨HYL.out, .inr ⟨b, o + 1 + 1, rfl, Nat.lt_of_lt_of_le hlt hB.size, HYS.out⟩⟩).mono ?_
  rintro e w3 ⟨rfl, rfl⟩
  dsimp only
  (repeat (first | (at_builtin; refine wpList_append_own _ rfl (.tmp 153) (.tmp 161) 54 rfl w.heap.size 20 i0 _ 1 16 Tryd.underlying54 hi hz0 hz1 hz2 rfl (by decide) _ j vs rfl ?own ⟨w3.heap.size, 0, none⟩ 1 1 [_] rfl rfl (by exact fun j u hj => (cell_new w3 20 _ j).trans hj) ?c2 ?c3 ?c4 ?c5 ?_) | go_values | go_skip | go_guarded | go_step | go_upon))
  case own => exact HO.out.alloc _
  case c2 => intro u hu; simp at hu; subst hu; rfl
  case c3 => unfold maxLen; omega
  case c4 => omega
  case c5 => have := hB.size; show _ ≤ (w3.alloc _).heap.size; simp; omega
  intro v' w1 hown hgrow _
  have hV2 := areV_snoc HO.out HX.out HV.out (x := .c128 X Y) (u := .iface 80 (.complex .f64 X Y)) rfl hgrow
  have hB2 := (hB.alloc hB.size (.cells #[.iface 80 (.complex .f64 X Y)] 20)).grown hgrow (by have := hB.size; show _ ≤ (w3.alloc _).heap.size; simp; omega) (fun g hg => (HO.out.lt g hg).1)
  have HO2 := Lib.hid hown
  have HV2 := Lib.hid hV2
  have HB2 := Lib.hid hB2
  clear hown hgrow hV2 hB2
  (repeat (first | go_values | go_skip | go_guarded | go_step | go_upon))
  skip
  rw [show m + (2 + n2) - 1 - (n2 + 1) = m by omega]
  refine HN.out _ w1 _ (c - 1 - (n2 + 1)) v' _ ⟨rfl, rfl, rfl, rfl, rfl, rfl⟩ (by omega) (by omega) ?rd HB2.out HO2.out HV2.out
  case rd =>
    refine ⟨HM.out, ?_⟩
    rcases Nat.eq_zero_or_pos m with h | h
    · exact .inl (List.eq_nil_of_length_eq_zero (HM.out.trans h))
    · refine .inr ⟨b, o + (2 + n2), by rw [if_neg (by omega)]; first | done | exact congrArg some (congrArg (Addr.mk b · none) (by omega)), hlt, fun i x hx => ?_⟩
      refine (HB2.out.cell (p := ⟨b, o + (2 + n2) + i, none⟩) hlt).trans ((hB.cell (p := ⟨b, o + (2 + n2) + i, none⟩) hlt).symm.trans ?_)
      exact HRS.out i x hx

set_option maxRecDepth 100000 in
set_option maxHeartbeats 4000000 in
theorem round23_c1_0 (xs ys2 : List UInt8) (hxl : xs.length = 1) (hyl : ys2.length = 0) (X Y : Nat) (hD : DecF 1 xs X) (hE : DecF 0 ys2 Y) : Round23 ((13 :: xs) ++ (12 :: ys2)) (.c128 X Y) := by
  obtain ⟨i0, hi, hz0, hz1, hz2⟩ := info_parts info20
  intro K Q0 w wr a c j rest v vs ys s4 u hlc hc hl hk hr hB hO hx hV hnext
  obtain ⟨b, o, rfl, hlt, hcell⟩ : ∃ b o, a = some ⟨b, o, none⟩ ∧ b < w.heap.size ∧ ∀ (i : Nat) (x : UInt8), (((13 :: xs) ++ (12 :: ys2)) ++ rest)[i]? = some x → wr.cell? ⟨b, o + i, none⟩ = some (.int .u8 (x.toNat : Int)) := by
    rcases hr.2 with h | h
    · cases h
    · exact h
  have hc0 : wr.cell? ⟨b, o, none⟩ = some (.int .u8 13) := hcell 0 13 rfl
  have hxs : ∀ (i : Nat) (x : UInt8), xs[i]? = some x → wr.cell? ⟨b, o + 1 + i, none⟩ = some (.int .u8 (x.toNat : Int)) := fun i x hi => by
    have hil : i < xs.length := (List.getElem?_eq_some_iff.1 hi).1
    have := hcell (i + 1) x (by rw [List.append_assoc, List.cons_append, List.getElem?_cons_succ, List.getElem?_append_left hil]; exact hi)
    rwa [show o + (i + 1) = o + 1 + i by omega] at this
  have hc1 : wr.cell? ⟨b, o + 2, none⟩ = some (.int .u8 12) := by
    have := hcell 2 (12) (by rw [List.append_assoc, List.getElem?_append_right (by simp only [List.length_cons]; omega)]; simp only [List.length_cons, hxl]; rfl)
    exact this
  have hys : ∀ (i : Nat) (x : UInt8), ys2[i]? = some x → wr.cell? ⟨b, o + 2 + 1 + i, none⟩ = some (.int .u8 (x.toNat : Int)) := fun i x hi => by
    have hil : i < ys2.length := (List.getElem?_eq_some_iff.1 hi).1
    have := hcell (i + 3) x (by
      rw [List.append_assoc, List.getElem?_append_right (by simp only [List.length_cons]; omega)]
      simp only [List.length_cons, hxl]
      rw [show i + 3 - (1 + 1) = i + 1 by omega, List.cons_append, List.getElem?_cons_succ, List.getElem?_append_left hil]
      exact hi)
    rwa [show o + (i + 3) = o + 2 + 1 + i by omega] at this
  have hch : ((13 :: xs) ++ (12 :: ys2)).length = 3 := by simp only [List.length_append, List.length_cons]; omega
  have hrs : ∀ (i : Nat) (x : UInt8), rest[i]? = some x → wr.cell? ⟨b, o + (3) + i, none⟩ = some (.int .u8 (x.toNat : Int)) := fun i x hi => by
    have := hcell (i + (3)) x (by rw [List.getElem?_append_right (by omega), hch, Nat.add_sub_cancel]; exact hi)
    rwa [show o + (i + (3)) = o + (3) + i by omega] at this
  have hlen : (((13 :: xs) ++ (12 :: ys2)) ++ rest).length = rest.length + (3) := by rw [List.length_append, hch, Nat.add_comm]
  rw [hlen] at hlc hl
  rw [hlen]
  have HXS := Lib.hid hxs
  have HYS := Lib.hid hys
  have HRS := Lib.hid hrs
  have HN := Lib.hid hnext
  have HO := Lib.hid hO
  have HV := Lib.hid hV
  have HX := Lib.hid hx
  have HXL := Lib.hid hxl
  have HYL := Lib.hid hyl
  have HD := Lib.hid hD
  have HE := Lib.hid hE
  generalize hm : rest.length = m at *
  have HM := Lib.hid hm
  clear hr hcell hnext hlen hO hV hx hm hxs hys hrs hxl hyl hD hE hch
  conv => arg 2; whnf
  unfold frm23
  (repeat (first | go_values | go_skip | go_guarded | go_step | go_upon))
  refine (HD.out wr _ _ ⟨HXL.out, .inr ⟨b, o + 1, rfl, Nat.lt_of_lt_of_le hlt hB.size, HXS.out⟩⟩).mono ?_
  rintro e w2 ⟨rfl, rfl⟩
  dsimp only
  (repeat (first | go_values | go_skip | go_guarded | go_step | go_upon))
  refine (HE.out w2 _ _ ⟨HYL.out, .inl (List.eq_nil_of_length_eq_zero HYL.out)⟩).mono ?_
  rintro e w3 ⟨rfl, rfl⟩
  dsimp only
  (repeat (first | (at_builtin; refine wpList_append_own _ rfl (.tmp 153) (.tmp 161) 54 rfl w.heap.size 20 i0 _ 1 16 Tryd.underlying54 hi hz0 hz1 hz2 rfl (by decide) _ j vs rfl ?own ⟨w3.heap.size, 0, none⟩ 1 1 [_] rfl rfl (by exact fun j u hj => (cell_new w3 20 _ j).trans hj) ?c2 ?c3 ?c4 ?c5 ?_) | go_values | go_skip | go_guarded | go_step | go_upon))
  case own => exact HO.out.alloc _
  case c2 => intro u hu; simp at hu; subst hu; rfl
  case c3 => unfold maxLen; omega
  case c4 => omega
  case c5 => have := hB.size; show _ ≤ (w3.alloc _).heap.size; simp; omega
  intro v' w1 hown hgrow _
  have hV2 := areV_snoc HO.out HX.out HV.out (x := .c128 X Y) (u := .iface 80 (.complex .f64 X Y)) rfl hgrow
  have hB2 := (hB.alloc hB.size (.cells #[.iface 80 (.complex .f64 X Y)] 20)).grown hgrow (by have := hB.size; show _ ≤ (w3.alloc _).heap.size; simp; omega) (fun g hg => (HO.out.lt g hg).1)
  have HO2 := Lib.hid hown
  have HV2 := Lib.hid hV2
  have HB2 := Lib.hid hB2
  clear hown hgrow hV2 hB2
  (repeat (first | go_values | go_skip | go_guarded | go_step | go_upon))
  skip
  skip
  refine HN.out _ w1 _ (c - 2 - 1) v' _ ⟨rfl, rfl, rfl, rfl, rfl, rfl⟩ (by omega) (by omega) ?rd HB2.out HO2.out HV2.out
  case rd =>
    refine ⟨HM.out, ?_⟩
    rcases Nat.eq_zero_or_pos m with h | h
    · exact .inl (List.eq_nil_of_length_eq_zero (HM.out.trans h))
    · refine .inr ⟨b, o + (3), by rw [if_neg (by omega)], hlt, fun i x hx => ?_⟩
      refine (HB2.out.cell (p := ⟨b, o + (3) + i, none⟩) hlt).trans ((hB.cell (p := ⟨b, o + (3) + i, none⟩) hlt).symm.trans ?_)
      exact HRS.out i x hx

set_option maxRecDepth 100000 in
set_option maxHeartbeats 4000000 in
theorem round23_c1_1 (xs ys2 : List UInt8) (hxl : xs.length = 1) (n2 : Nat) (hn1 : 1 ≤ n2) (hn8 : n2 ≤ 8) (hyl : ys2.length = n2) (X Y : Nat) (hD : DecF 1 xs X) (hE : DecF n2 ys2 Y) : Round23 ((13 :: xs) ++ (UInt8.ofNat (12 + n2) :: ys2)) (.c128 X Y) := by
  obtain ⟨i0, hi, hz0, hz1, hz2⟩ := info_parts info20
  intro K Q0 w wr a c j rest v vs ys s4 u hlc hc hl hk hr hB hO hx hV hnext
  obtain ⟨b, o, rfl, hlt, hcell⟩ : ∃ b o, a = some ⟨b, o, none⟩ ∧ b < w.heap.size ∧ ∀ (i : Nat) (x : UInt8), (((13 :: xs) ++ (UInt8.ofNat (12 + n2) :: ys2)) ++ rest)[i]? = some x → wr.cell? ⟨b, o + i, none⟩ = some (.int .u8 (x.toNat : Int)) := by
    rcases hr.2 with h | h
    · cases h
    · exact h
  have hc0 : wr.cell? ⟨b, o, none⟩ = some (.int .u8 13) := hcell 0 13 rfl
  have hxs : ∀ (i : Nat) (x : UInt8), xs[i]? = some x → wr.cell? ⟨b, o + 1 + i, none⟩ = some (.int .u8 (x.toNat : Int)) := fun i x hi => by
    have hil : i < xs.length := (List.getElem?_eq_some_iff.1 hi).1
    have := hcell (i + 1) x (by rw [List.append_assoc, List.cons_append, List.getElem?_cons_succ, List.getElem?_append_left hil]; exact hi)
    rwa [show o + (i + 1) = o + 1 + i by omega] at this
  have hc1 : wr.cell? ⟨b, o + 2, none⟩ = some (.int .u8 (12 + (n2 : Int))) := by
    have := hcell 2 (UInt8.ofNat (12 + n2)) (by rw [List.append_assoc, List.getElem?_append_right (by simp only [List.length_cons]; omega)]; simp only [List.length_cons, hxl]; rfl)
    rwa [show ((UInt8.ofNat (12 + n2)).toNat : Int) = 12 + (n2 : Int) by rw [UInt8.toNat_ofNat']; omega] at this
  obtain ⟨T, hT⟩ : ∃ T : Int, 12 + (n2 : Int) = T := ⟨_, rfl⟩
  rw [hT] at hc1
  have hT1 : (T < 12) = False := by rw [eq_iff_iff, iff_false]; omega
  have hT2 : (20 < T) = False := by rw [eq_iff_iff, iff_false]; omega
  have hT3 : 12 ≤ T := by omega
  have hT4 : T ≤ 20 := by omega
  have hTn : 1 + T - 12 = (n2 : Int) + 1 := by omega
  clear hT
  have hys : ∀ (i : Nat) (x : UInt8), ys2[i]? = some x → wr.cell? ⟨b, o + 2 + 1 + i, none⟩ = some (.int .u8 (x.toNat : Int)) := fun i x hi => by
    have hil : i < ys2.length := (List.getElem?_eq_some_iff.1 hi).1
    have := hcell (i + 3) x (by
      rw [List.append_assoc, List.getElem?_append_right (by simp only [List.length_cons]; omega)]
      simp only [List.length_cons, hxl]
      rw [show i + 3 - (1 + 1) = i + 1 by omega, List.cons_append, List.getElem?_cons_succ, List.getElem?_append_left hil]
      exact hi)
    rwa [show o + (i + 3) = o + 2 + 1 + i by omega] at this
  have hch : ((13 :: xs) ++ (UInt8.ofNat (12 + n2) :: ys2)).length = 3 + n2 := by simp only [List.length_append, List.length_cons]; omega
  have hrs : ∀ (i : Nat) (x : UInt8), rest[i]? = some x → wr.cell? ⟨b, o + (3 + n2) + i, none⟩ = some (.int .u8 (x.toNat : Int)) := fun i x hi => by
    have := hcell (i + (3 + n2)) x (by rw [List.getElem?_append_right (by omega), hch, Nat.add_sub_cancel]; exact hi)
    rwa [show o + (i + (3 + n2)) = o + (3 + n2) + i by omega] at this
  have hlen : (((13 :: xs) ++ (UInt8.ofNat (12 + n2) :: ys2)) ++ rest).length = rest.length + (3 + n2) := by rw [List.length_append, hch, Nat.add_comm]
  rw [hlen] at hlc hl
  rw [hlen]
  have HXS := Lib.hid hxs
  have HYS := Lib.hid hys
  have HRS := Lib.hid hrs
  have HN := Lib.hid hnext
  have HO := Lib.hid hO
  have HV := Lib.hid hV
  have HX := Lib.hid hx
  have HXL := Lib.hid hxl
  have HYL := Lib.hid hyl
  have HD := Lib.hid hD
  have HE := Lib.hid hE
  generalize hm : rest.length = m at *
  have HM := Lib.hid hm
  clear hr hcell hnext hlen hO hV hx hm hxs hys hrs hxl hyl hD hE hch
  conv => arg 2; whnf
  unfold frm23
  (repeat (first | go_values | go_skip | go_guarded | go_step | go_upon))
  refine (HD.out wr _ _ ⟨HXL.out, .inr ⟨b, o + 1, rfl, Nat.lt_of_lt_of_le hlt hB.size, HXS.out⟩⟩).mono ?_
  rintro e w2 ⟨rfl, rfl⟩
  dsimp only
  (repeat (first | go_values | go_skip | go_guarded | go_step | go_upon))
  refine (HE.out w2 _ _ ⟨HYL.out, .inr ⟨b, o + 2 + 1, rfl, Nat.lt_of_lt_of_le hlt hB.size, HYS.out⟩⟩).mono ?_
  rintro e w3 ⟨rfl, rfl⟩
  dsimp only
  (repeat (first | (at_builtin; refine wpList_append_own _ rfl (.tmp 153) (.tmp 161) 54 rfl w.heap.size 20 i0 _ 1 16 Tryd.underlying54 hi hz0 hz1 hz2 rfl (by decide) _ j vs rfl ?own ⟨w3.heap.size, 0, none⟩ 1 1 [_] rfl rfl (by exact fun j u hj => (cell_new w3 20 _ j).trans hj) ?c2 ?c3 ?c4 ?c5 ?_) | go_values | go_skip | go_guarded | go_step | go_upon))
  case own => exact HO.out.alloc _
  case c2 => intro u hu; simp at hu; subst hu; rfl
  case c3 => unfold maxLen; omega
  case c4 => omega
  case c5 => have := hB.size; show _ ≤ (w3.alloc _).heap.size; simp; omega
  intro v' w1 hown hgrow _
  have hV2 := areV_snoc HO.out HX.out HV.out (x := .c128 X Y) (u := .iface 80 (.complex .f64 X Y)) rfl hgrow
  have hB2 := (hB.alloc hB.size (.cells #[.iface 80 (.complex .f64 X Y)] 20)).grown hgrow (by have := hB.size; show _ ≤ (w3.alloc _).heap.size; simp; omega) (fun g hg => (HO.out.lt g hg).1)
  have HO2 := Lib.hid hown
  have HV2 := Lib.hid hV2
  have HB2 := Lib.hid hB2
  clear hown hgrow hV2 hB2
  (repeat (first | go_values | go_skip | go_guarded | go_step | go_upon))
  skip
  rw [show m + (3 + n2) - 2 - (n2 + 1) = m by omega]
  refine HN.out _ w1 _ (c - 2 - (n2 + 1)) v' _ ⟨rfl, rfl, rfl, rfl, rfl, rfl⟩ (by omega) (by omega) ?rd HB2.out HO2.out HV2.out
  case rd =>
    refine ⟨HM.out, ?_⟩
    rcases Nat.eq_zero_or_pos m with h | h
    · exact .inl (List.eq_nil_of_length_eq_zero (HM.out.trans h))
    · refine .inr ⟨b, o + (3 + n2), by rw [if_neg (by omega)]; first | done | exact congrArg some (congrArg (Addr.mk b · none) (by omega)), hlt, fun i x hx => ?_⟩
      refine (HB2.out.cell (p := ⟨b, o + (3 + n2) + i, none⟩) hlt).trans ((hB.cell (p := ⟨b, o + (3 + n2) + i, none⟩) hlt).symm.trans ?_)
      exact HRS.out i x hx

set_option maxRecDepth 100000 in
set_option maxHeartbeats 4000000 in
theorem round23_c2_0 (xs ys2 : List UInt8) (hxl : xs.length = 2) (hyl : ys2.length = 0) (X Y : Nat) (hD : DecF 2 xs X) (hE : DecF 0 ys2 Y) : Round23 ((14 :: xs) ++ (12 :: ys2)) (.c128 X Y) := by
  obtain ⟨i0, hi, hz0, hz1, hz2⟩ := info_parts info20
  intro K Q0 w wr a c j rest v vs ys s4 u hlc hc hl hk hr hB hO hx hV hnext
  obtain ⟨b, o, rfl, hlt, hcell⟩ : ∃ b o, a = some ⟨b, o, none⟩ ∧ b < w.heap.size ∧ ∀ (i : Nat) (x : UInt8), (((14 :: xs) ++ (12 :: ys2)) ++ rest)[i]? = some x → wr.cell? ⟨b, o + i, none⟩ = some (.int .u8 (x.toNat : Int)) := by
    rcases hr.2 with h | h
    · cases h
    · exact h
  have hc0 : wr.cell? ⟨b, o, none⟩ = some (.int .u8 14) := hcell 0 14 rfl
  have hxs : ∀ (i : Nat) (x : UInt8), xs[i]? = some x → wr.cell? ⟨b, o + 1 + i, none⟩ = some (.int .u8 (x.toNat : Int)) := fun i x hi => by
    have hil : i < xs.length := (List.getElem?_eq_some_iff.1 hi).1
    have := hcell (i + 1) x (by rw [List.append_assoc, List.cons_append, List.getElem?_cons_succ, List.getElem?_append_left hil]; exact hi)
    rwa [show o + (i + 1) = o + 1 + i by omega] at this
  have hc1 : wr.cell? ⟨b, o + 3, none⟩ = some (.int .u8 12) := by
    have := hcell 3 (12) (by rw [List.append_assoc, List.getElem?_append_right (by simp only [List.length_cons]; omega)]; simp only [List.length_cons, hxl]; rfl)
    exact this
  have hys : ∀ (i : Nat) (x : UInt8), ys2[i]? = some x → wr.cell? ⟨b, o + 3 + 1 + i, none⟩ = some (.int .u8 (x.toNat : Int)) := fun i x hi => by
    have hil : i < ys2.length := (List.getElem?_eq_some_iff.1 hi).1
    have := hcell (i + 4) x (by
      rw [List.append_assoc, List.getElem?_append_right (by simp only [List.length_cons]; omega)]
      simp only [List.length_cons, hxl]
      rw [show i + 4 - (2 + 1) = i + 1 by omega, List.cons_append, List.getElem?_cons_succ, List.getElem?_append_left hil]
      exact hi)
    rwa [show o + (i + 4) = o + 3 + 1 + i by omega] at this
  have hch : ((14 :: xs) ++ (12 :: ys2)).length = 4 := by simp only [List.length_append, List.length_cons]; omega
  have hrs : ∀ (i : Nat) (x : UInt8), rest[i]? = some x → wr.cell? ⟨b, o + (4) + i, none⟩ = some (.int .u8 (x.toNat : Int)) := fun i x hi => by
    have := hcell (i + (4)) x (by rw [List.getElem?_append_right (by omega), hch, Nat.add_sub_cancel]; exact hi)
    rwa [show o + (i + (4)) = o + (4) + i by omega] at this
  have hlen : (((14 :: xs) ++ (12 :: ys2)) ++ rest).length = rest.length + (4) := by rw [List.length_append, hch, Nat.add_comm]
  rw [hlen] at hlc hl
  rw [hlen]
  have HXS := Lib.hid hxs
  have HYS := Lib.hid hys
  have HRS := Lib.hid hrs
  have HN := Lib.hid hnext
  have HO := Lib.hid hO
  have HV := Lib.hid hV
  have HX := Lib.hid hx
  have HXL := Lib.hid hxl
  have HYL := Lib.hid hyl
  have HD := Lib.hid hD
  have HE := Lib.hid hE
  generalize hm : rest.length = m at *
  have HM := Lib.hid hm
  clear hr hcell hnext hlen hO hV hx hm hxs hys hrs hxl hyl hD hE hch
  conv => arg 2; whnf
  unfold frm23
  (repeat (first | go_values | go_skip | go_guarded | go_step | go_upon))
  refine (HD.out wr _ _ ⟨HXL.out, .inr ⟨b, o + 1, rfl, Nat.lt_of_lt_of_le hlt hB.size, HXS.out⟩⟩).mono ?_
  rintro e w2 ⟨rfl, rfl⟩
  dsimp only
  (repeat (first | go_values | go_skip | go_guarded | go_step | go_upon))
  refine (HE.out w2 _ _ ⟨HYL.out, .inl (List.eq_nil_of_length_eq_zero HYL.out)⟩).mono ?_
  rintro e w3 ⟨rfl, rfl⟩
  dsimp only
  (repeat (first | (at_builtin; refine wpList_append_own _ rfl (.tmp 153) (.tmp 161) 54 rfl w.heap.size 20 i0 _ 1 16 Tryd.underlying54 hi hz0 hz1 hz2 rfl (by decide) _ j vs rfl ?own ⟨w3.heap.size, 0, none⟩ 1 1 [_] rfl rfl (by exact fun j u hj => (cell_new w3 20 _ j).trans hj) ?c2 ?c3 ?c4 ?c5 ?_) | go_values | go_skip | go_guarded | go_step | go_upon))
  case own => exact HO.out.alloc _
  case c2 => intro u hu; simp at hu; subst hu; rfl
  case c3 => unfold maxLen; omega
  case c4 => omega
  case c5 => have := hB.size; show _ ≤ (w3.alloc _).heap.size; simp; omega
  intro v' w1 hown hgrow _
  have hV2 := areV_snoc HO.out HX.out HV.out (x := .c128 X Y) (u := .iface 80 (.complex .f64 X Y)) rfl hgrow
  have hB2 := (hB.alloc hB.size (.cells #[.iface 80 (.complex .f64 X Y)] 20)).grown hgrow (by have := hB.size; show _ ≤ (w3.alloc _).heap.size; simp; omega) (fun g hg => (HO.out.lt g hg).1)
  have HO2 := Lib.hid hown
  have HV2 := Lib.hid hV2
  have HB2 := Lib.hid hB2
  clear hown hgrow hV2 hB2
  (repeat (first | go_values | go_skip | go_guarded | go_step | go_upon))
  skip
  skip
  refine HN.out _ w1 _ (c - 3 - 1) v' _ ⟨rfl, rfl, rfl, rfl, rfl, rfl⟩ (by omega) (by omega) ?rd HB2.out HO2.out HV2.out
  case rd =>
    refine ⟨HM.out, ?_⟩
    rcases Nat.eq_zero_or_pos m with h | h
    · exact .inl (List.eq_nil_of_length_eq_zero (HM.out.trans h))
    · refine .inr ⟨b, o + (4), by rw [if_neg (by omega)], hlt, fun i x hx => ?_⟩
      refine (HB2.out.cell (p := ⟨b, o + (4) + i, none⟩) hlt).trans ((hB.cell (p := ⟨b, o + (4) + i, none⟩) hlt).symm.trans ?_)
      exact HRS.out i x hx

set_option maxRecDepth 100000 in
set_option maxHeartbeats 4000000 in
theorem round23_c2_1 (xs ys2 : List UInt8) (hxl : xs.length = 2) (n2 : Nat) (hn1 : 1 ≤ n2) (hn8 : n2 ≤ 8) (hyl : ys2.length = n2) (X Y : Nat) (hD : DecF 2 xs X) (hE : DecF n2 ys2 Y) : Round23 ((14 :: xs) ++ (UInt8.ofNat (12 + n2) :: ys2)) (.c128 X Y) := by
  obtain ⟨i0, hi, hz0, hz1, hz2⟩ := info_parts info20
  intro K Q0 w wr a c j rest v vs ys s4 u hlc hc hl hk hr hB hO hx hV hnext
  obtain ⟨b, o, rfl, hlt, hcell⟩ : ∃ b o, a = some ⟨b, o, none⟩ ∧ b < w.heap.size ∧ ∀ (i : Nat) (x : UInt8), (((14 :: xs) ++ (UInt8.ofNat (12 + n2) :: ys2)) ++ rest)[i]? = some x → wr.cell? ⟨b, o + i, none⟩ = some (.int .u8 (x.toNat : Int)) := by
    rcases hr.2 with h | h
    · cases h
    · exact h
  have hc0 : wr.cell? ⟨b, o, none⟩ = some (.int .u8 14) := hcell 0 14 rfl
  have hxs : ∀ (i : Nat) (x : UInt8), xs[i]? = some x → wr.cell? ⟨b, o + 1 + i, none⟩ = some (.int .u8 (x.toNat : Int)) := fun i x hi => by
    have hil : i < xs.length := (List.getElem?_eq_some_iff.1 hi).1
    have := hcell (i + 1) x (by rw [List.append_assoc, List.cons_append, List.getElem?_cons_succ, List.getElem?_append_left hil]; exact hi)
    rwa [show o + (i + 1) = o + 1 + i by omega] at this
  have hc1 : wr.cell? ⟨b, o + 3, none⟩ = some (.int .u8 (12 + (n2 : Int))) := by
    have := hcell 3 (UInt8.ofNat (12 + n2)) (by rw [List.append_assoc, List.getElem?_append_right (by simp only [List.length_cons]; omega)]; simp only [List.length_cons, hxl]; rfl)
    rwa [show ((UInt8.ofNat (12 + n2)).toNat : Int) = 12 + (n2 : Int) by rw [UInt8.toNat_ofNat']; omega] at this
  obtain ⟨T, hT⟩ : ∃ T : Int, 12 + (n2 : Int) = T := ⟨_, rfl⟩
  rw [hT] at hc1
  have hT1 : (T < 12) = False := by rw [eq_iff_iff, iff_false]; omega
  have hT2 : (20 < T) = False := by rw [eq_iff_iff, iff_false]; omega
  have hT3 : 12 ≤ T := by omega
  have hT4 : T ≤ 20 := by omega
  have hTn : 1 + T - 12 = (n2 : Int) + 1 := by omega
  clear hT
  have hys : ∀ (i : Nat) (x : UInt8), ys2[i]? = some x → wr.cell? ⟨b, o + 3 + 1 + i, none⟩ = some (.int .u8 (x.toNat : Int)) := fun i x hi => by
    have hil : i < ys2.length := (List.getElem?_eq_some_iff.1 hi).1
    have := hcell (i + 4) x (by
      rw [List.append_assoc, List.getElem?_append_right (by simp only [List.length_cons]; omega)]
      simp only [List.length_cons, hxl]
      rw [show i + 4 - (2 + 1) = i + 1 by omega, List.cons_append, List.getElem?_cons_succ, List.getElem?_append_left hil]
      exact hi)
    rwa [show o + (i + 4) = o + 3 + 1 + i by omega] at this
  have hch : ((14 :: xs) ++ (UInt8.ofNat (12 + n2) :: ys2)).length = 4 + n2 := by simp only [List.length_append, List.length_cons]; omega
  have hrs : ∀ (i : Nat) (x : UInt8), rest[i]? = some x → wr.cell? ⟨b, o + (4 + n2) + i, none⟩ = some (.int .u8 (x.toNat : Int)) := fun i x hi => by
    have := hcell (i + (4 + n2)) x (by rw [List.getElem?_append_right (by omega), hch, Nat.add_sub_cancel]; exact hi)
    rwa [show o + (i + (4 + n2)) = o + (4 + n2) + i by omega] at this
  have hlen : (((14 :: xs) ++ (UInt8.ofNat (12 + n2) :: ys2)) ++ rest).length = rest.length + (4 + n2) := by rw [List.length_append, hch, Nat.add_comm]
  rw [hlen] at hlc hl
  rw [hlen]
  have HXS := Lib.hid hxs
  have HYS := Lib.hid hys
  have HRS := Lib.hid hrs
  have HN := Lib.hid hnext
  have HO := Lib.hid hO
  have HV := Lib.hid hV
  have HX := Lib.hid hx
  have HXL := Lib.hid hxl
  have HYL := Lib.hid hyl
  have HD := Lib.hid hD
  have HE := Lib.hid hE
  generalize hm : rest.length = m at *
  have HM := Lib.hid hm
  clear hr hcell hnext hlen hO hV hx hm hxs hys hrs hxl hyl hD hE hch
  conv => arg 2; whnf
  unfold frm23
  (repeat (first | go_values | go_skip | go_guarded | go_step | go_upon))
  refine (HD.out wr _ _ ⟨HXL.out, .inr ⟨b, o + 1, rfl, Nat.lt_of_lt_of_le hlt hB.size, HXS.out⟩⟩).mono ?_
  rintro e w2 ⟨rfl, rfl⟩
  dsimp only
  (repeat (first | go_values | go_skip | go_guarded | go_step | go_upon))
  refine (HE.out w2 _ _ ⟨HYL.out, .inr ⟨b, o + 3 + 1, rfl, Nat.lt_of_lt_of_le hlt hB.size, HYS.out⟩⟩).mono ?_
  rintro e w3 ⟨rfl, rfl⟩
  dsimp only
  (repeat (first | (at_builtin; refine wpList_append_own _ rfl (.tmp 153) (.tmp 161) 54 rfl w.heap.size 20 i0 _ 1 16 Tryd.underlying54 hi hz0 hz1 hz2 rfl (by decide) _ j vs rfl ?own ⟨w3.heap.size, 0, none⟩ 1 1 [_] rfl rfl (by exact fun j u hj => (cell_new w3 20 _ j).trans hj) ?c2 ?c3 ?c4 ?c5 ?_) | go_values | go_skip | go_guarded | go_step | go_upon))
  case own => exact HO.out.alloc _
  case c2 => intro u hu; simp at hu; subst hu; rfl
  case c3 => unfold maxLen; omega
  case c4 => omega
  case c5 => have := hB.size; show _ ≤ (w3.alloc _).heap.size; simp; omega
  intro v' w1 hown hgrow _
  have hV2 := areV_snoc HO.out HX.out HV.out (x := .c128 X Y) (u := .iface 80 (.complex .f64 X Y)) rfl hgrow
  have hB2 := (hB.alloc hB.size (.cells #[.iface 80 (.complex .f64 X Y)] 20)).grown hgrow (by have := hB.size; show _ ≤ (w3.alloc _).heap.size; simp; omega) (fun g hg => (HO.out.lt g hg).1)
  have HO2 := Lib.hid hown
  have HV2 := Lib.hid hV2
  have HB2 := Lib.hid hB2
  clear hown hgrow hV2 hB2
  (repeat (first | go_values | go_skip | go_guarded | go_step | go_upon))
  skip
  rw [show m + (4 + n2) - 3 - (n2 + 1) = m by omega]
  refine HN.out _ w1 _ (c - 3 - (n2 + 1)) v' _ ⟨rfl, rfl, rfl, rfl, rfl, rfl⟩ (by omega) (by omega) ?rd HB2.out HO2.out HV2.out
  case rd =>
    refine ⟨HM.out, ?_⟩
    rcases Nat.eq_zero_or_pos m with h | h
    · exact .inl (List.eq_nil_of_length_eq_zero (HM.out.trans h))
    · refine .inr ⟨b, o + (4 + n2), by rw [if_neg (by omega)]; first | done | exact congrArg some (congrArg (Addr.mk b · none) (by omega)), hlt, fun i x hx => ?_⟩
      refine (HB2.out.cell (p := ⟨b, o + (4 + n2) + i, none⟩) hlt).trans ((hB.cell (p := ⟨b, o + (4 + n2) + i, none⟩) hlt).symm.trans ?_)
      exact HRS.out i x hx

set_option maxRecDepth 100000 in
set_option maxHeartbeats 4000000 in
theorem round23_c3_0 (xs ys2 : List UInt8) (hxl : xs.length = 3) (hyl : ys2.length = 0) (X Y : Nat) (hD : DecF 3 xs X) (hE : DecF 0 ys2 Y) : Round23 ((15 :: xs) ++ (12 :: ys2)) (.c128 X Y) := by
  obtain ⟨i0, hi, hz0, hz1, hz2⟩ := info_parts info20
  intro K Q0 w wr a c j rest v vs ys s4 u hlc hc hl hk hr hB hO hx hV hnext
  obtain ⟨b, o, rfl, hlt, hcell⟩ : ∃ b o, a = some ⟨b, o, none⟩ ∧ b < w.heap.size ∧ ∀ (i : Nat) (x : UInt8), (((15 :: xs) ++ (12 :: ys2)) ++ rest)[i]? = some x → wr.cell? ⟨b, o + i, none⟩ = some (.int .u8 (x.toNat : Int)) := by
    rcases hr.2 with h | h
    · cases h
    · exact h
  have hc0 : wr.cell? ⟨b, o, none⟩ = some (.int .u8 15) := hcell 0 15 rfl
  have hxs : ∀ (i : Nat) (x : UInt8), xs[i]? = some x → wr.cell? ⟨b, o + 1 + i, none⟩ = some (.int .u8 (x.toNat : Int)) := fun i x hi => by
    have hil : i < xs.length := (List.getElem?_eq_some_iff.1 hi).1
    have := hcell (i + 1) x (by rw [List.append_assoc, List.cons_append, List.getElem?_cons_succ, List.getElem?_append_left hil]; exact hi)
    rwa [show o + (i + 1) = o + 1 + i by omega] at this
  have hc1 : wr.cell? ⟨b, o + 4, none⟩ = some (.int .u8 12) := by
    have := hcell 4 (12) (by rw [List.append_assoc, List.getElem?_append_right (by simp only [List.length_cons]; omega)]; simp only [List.length_cons, hxl]; rfl)
    exact this
  have hys : ∀ (i : Nat) (x : UInt8), ys2[i]? = some x → wr.cell? ⟨b, o + 4 + 1 + i, none⟩ = some (.int .u8 (x.toNat : Int)) := fun i x hi => by
    have hil : i < ys2.length := (List.getElem?_eq_some_iff.1 hi).1
    have := hcell (i + 5) x (by
      rw [List.append_assoc, List.getElem?_append_right (by simp only [List.length_cons]; omega)]
      simp only [List.length_cons, hxl]
      rw [show i + 5 - (3 + 1) = i + 1 by omega, List.cons_append, List.getElem?_cons_succ, List.getElem?_append_left hil]
      exact hi)
    rwa [show o + (i + 5) = o + 4 + 1 + i by omega] at this
  have hch : ((15 :: xs) ++ (12 :: ys2)).length = 5 := by simp only [List.length_append, List.length_cons]; omega
  have hrs : ∀ (i : Nat) (x : UInt8), rest[i]? = some x → wr.cell? ⟨b, o + (5) + i, none⟩ = some (.int .u8 (x.toNat : Int)) := fun i x hi => by
    have := hcell (i + (5)) x (by rw [List.getElem?_append_right (by omega), hch, Nat.add_sub_cancel]; exact hi)
    rwa [show o + (i + (5)) = o + (5) + i by omega] at this
  have hlen : (((15 :: xs) ++ (12 :: ys2)) ++ rest).length = rest.length + (5) := by rw [List.length_append, hch, Nat.add_comm]
  rw [hlen] at hlc hl
  rw [hlen]
  have HXS := Lib.hid hxs
  have HYS := Lib.hid hys
  have HRS := Lib.hid hrs
  have HN := Lib.hid hnext
  have HO := Lib.hid hO
  have HV := Lib.hid hV
  have HX := Lib.hid hx
  have HXL := Lib.hid hxl
  have HYL := Lib.hid hyl
  have HD := Lib.hid hD
  have HE := Lib.hid hE
  generalize hm : rest.length = m at *
  have HM := Lib.hid hm
  clear hr hcell hnext hlen hO hV hx hm hxs hys hrs hxl hyl hD hE hch
  conv => arg 2; whnf
  unfold frm23
  (repeat (first | go_values | go_skip | go_guarded | go_step | go_upon))
  refine (HD.out wr _ _ ⟨HXL.out, .inr ⟨b, o + 1, rfl, Nat.lt_of_lt_of_le hlt hB.size, HXS.out⟩⟩).mono ?_
  rintro e w2 ⟨rfl, rfl⟩
  dsimp only
  (repeat (first | go_values | go_skip | go_guarded | go_step | go_upon))
  refine (HE.out w2 _ _ ⟨HYL.out, .inl (List.eq_nil_of_length_eq_zero HYL.out)⟩).mono ?_
  rintro e w3 ⟨rfl, rfl⟩
  dsimp only
  (repeat (first | (at_builtin; refine wpList_append_own _ rfl (.tmp 153) (.tmp 161) 54 rfl w.heap.size 20 i0 _ 1 16 Tryd.underlying54 hi hz0 hz1 hz2 rfl (by decide) _ j vs rfl ?own ⟨w3.heap.size, 0, none⟩ 1 1 [_] rfl rfl (by exact fun j u hj => (cell_new w3 20 _ j).trans hj) ?c2 ?c3 ?c4 ?c5 ?_) | go_values | go_skip | go_guarded | go_step | go_upon))
  case own => exact HO.out.alloc _
  case c2 => intro u hu; simp at hu; subst hu; rfl
  case c3 => unfold maxLen; omega
  case c4 => omega
  case c5 => have := hB.size; show _ ≤ (w3.alloc _).heap.size; simp; omega
  intro v' w1 hown hgrow _
  have hV2 := areV_snoc HO.out HX.out HV.out (x := .c128 X Y) (u := .iface 80 (.complex .f64 X Y)) rfl hgrow
  have hB2 := (hB.alloc hB.size (.cells #[.iface 80 (.complex .f64 X Y)] 20)).grown hgrow (by have := hB.size; show _ ≤ (w3.alloc _).heap.size; simp; omega) (fun g hg => (HO.out.lt g hg).1)
  have HO2 := Lib.hid hown
  have HV2 := Lib.hid hV2
  have HB2 := Lib.hid hB2
  clear hown hgrow hV2 hB2
  (repeat (first | go_values | go_skip | go_guarded | go_step | go_upon))
  skip
  skip
  refine HN.out _ w1 _ (c - 4 - 1) v' _ ⟨rfl, rfl, rfl, rfl, rfl, rfl⟩ (by omega) (by omega) ?rd HB2.out HO2.out HV2.out
  case rd =>
    refine ⟨HM.out, ?_⟩
    rcases Nat.eq_zero_or_pos m with h | h
    · exact .inl (List.eq_nil_of_length_eq_zero (HM.out.trans h))
    · refine .inr ⟨b, o + (5), by rw [if_neg (by omega)], hlt, fun i x hx => ?_⟩
      refine (HB2.out.cell (p := ⟨b, o + (5) + i, none⟩) hlt).trans ((hB.cell (p := ⟨b, o + (5) + i, none⟩) hlt).symm.trans ?_)
      exact HRS.out i x hx

set_option maxRecDepth 100000 in
set_option maxHeartbeats 4000000 in
theorem round23_c3_1 (xs ys2 : List UInt8) (hxl : xs.length = 3) (n2 : Nat) (hn1 : 1 ≤ n2) (hn8 : n2 ≤ 8) (hyl : ys2.length = n2) (X Y : Nat) (hD : DecF 3 xs X) (hE : DecF n2 ys2 Y) : Round23 ((15 :: xs) ++ (UInt8.ofNat (12 + n2) :: ys2)) (.c128 X Y) := by
  obtain ⟨i0, hi, hz0, hz1, hz2⟩ := info_parts info20
  intro K Q0 w wr a c j rest v vs ys s4 u hlc hc hl hk hr hB hO hx hV hnext
  obtain ⟨b, o, rfl, hlt, hcell⟩ : ∃ b o, a = some ⟨b, o, none⟩ ∧ b < w.heap.size ∧ ∀ (i : Nat) (x : UInt8), (((15 :: xs) ++ (UInt8.ofNat (12 + n2) :: ys2)) ++ rest)[i]? = some x → wr.cell? ⟨b, o + i, none⟩ = some (.int .u8 (x.toNat : Int)) := by
    rcases hr.2 with h | h
    · cases h
    · exact h
  have hc0 : wr.cell? ⟨b, o, none⟩ = some (.int .u8 15) := hcell 0 15 rfl
  have hxs : ∀ (i : Nat) (x : UInt8), xs[i]? = some x → wr.cell? ⟨b, o + 1 + i, none⟩ = some (.int .u8 (x.toNat : Int)) := fun i x hi => by
    have hil : i < xs.length := (List.getElem?_eq_some_iff.1 hi).1
    have := hcell (i + 1) x (by rw [List.append_assoc, List.cons_append, List.getElem?_cons_succ, List.getElem?_append_left hil]; exact hi)
    rwa [show o + (i + 1) = o + 1 + i by omega] at this
  have hc1 : wr.cell? ⟨b, o + 4, none⟩ = some (.int .u8 (12 + (n2 : Int))) := by
    have := hcell 4 (UInt8.ofNat (12 + n2)) (by rw [List.append_assoc, List.getElem?_append_right (by simp only [List.length_cons]; omega)]; simp only [List.length_cons, hxl]; rfl)
    rwa [show ((UInt8.ofNat (12 + n2)).toNat : Int) = 12 + (n2 : Int) by rw [UInt8.toNat_ofNat']; omega] at this
  obtain ⟨T, hT⟩ : ∃ T : Int, 12 + (n2 : Int) = T := ⟨_, rfl⟩
  rw [hT] at hc1
  have hT1 : (T < 12) = False := by rw [eq_iff_iff, iff_false]; omega
  have hT2 : (20 < T) = False := by rw [eq_iff_iff, iff_false]; omega
  have hT3 : 12 ≤ T := by omega
  have hT4 : T ≤ 20 := by omega
  have hTn : 1 + T - 12 = (n2 : Int) + 1 := by omega
  clear hT
  have hys : ∀ (i : Nat) (x : UInt8), ys2[i]? = some x → wr.cell? ⟨b, o + 4 + 1 + i, none⟩ = some (.int .u8 (x.toNat : Int)) := fun i x hi => by
    have hil : i < ys2.length := (List.getElem?_eq_some_iff.1 hi).1
    have := hcell (i + 5) x (by
      rw [List.append_assoc, List.getElem?_append_right (by simp only [List.length_cons]; omega)]
      simp only [List.length_cons, hxl]
      rw [show i + 5 - (3 + 1) = i + 1 by omega, List.cons_append, List.getElem?_cons_succ, List.getElem?_append_left hil]
      exact hi)
    rwa [show o + (i + 5) = o + 4 + 1 + i by omega] at this
  have hch : ((15 :: xs) ++ (UInt8.ofNat (12 + n2) :: ys2)).length = 5 + n2 := by simp only [List.length_append, List.length_cons]; omega
  have hrs : ∀ (i : Nat) (x : UInt8), rest[i]? = some x → wr.cell? ⟨b, o + (5 + n2) + i, none⟩ = some (.int .u8 (x.toNat : Int)) := fun i x hi => by
    have := hcell (i + (5 + n2)) x (by rw [List.getElem?_append_right (by omega), hch, Nat.add_sub_cancel]; exact hi)
    rwa [show o + (i + (5 + n2)) = o + (5 + n2) + i by omega] at this
  have hlen : (((15 :: xs) ++ (UInt8.ofNat (12 + n2) :: ys2)) ++ rest).length = rest.length + (5 + n2) := by rw [List.length_append, hch, Nat.add_comm]
  rw [hlen] at hlc hl
  rw [hlen]
  have HXS := Lib.hid hxs
  have HYS := Lib.hid hys
  have HRS := Lib.hid hrs
  have HN := Lib.hid hnext
  have HO := Lib.hid hO
  have HV := Lib.hid hV
  have HX := Lib.hid hx
  have HXL := Lib.hid hxl
  have HYL := Lib.hid hyl
  have HD := Lib.hid hD
  have HE := Lib.hid hE
  generalize hm : rest.length = m at *
  have HM := Lib.hid hm
  clear hr hcell hnext hlen hO hV hx hm hxs hys hrs hxl hyl hD hE hch
  conv => arg 2; whnf
  unfold frm23
  (repeat (first | go_values | go_skip | go_guarded | go_step | go_upon))
  refine (HD.out wr _ _ ⟨HXL.out, .inr ⟨b, o + 1, rfl, Nat.lt_of_lt_of_le hlt hB.size, HXS.out⟩⟩).mono ?_
  rintro e w2 ⟨rfl, rfl⟩
  dsimp only
  (repeat (first | go_values | go_skip | go_guarded | go_step | go_upon))
  refine (HE.out w2 _ _ ⟨HYL.out, .inr ⟨b, o + 4 + 1, rfl, Nat.lt_of_lt_of_le hlt hB.size, HYS.out⟩⟩).mono ?_
  rintro e w3 ⟨rfl, rfl⟩
  dsimp only
  (repeat (first | (at_builtin; refine wpList_append_own _ rfl (.tmp 153) (.tmp 161) 54 rfl w.heap.size 20 i0 _ 1 16 Tryd.underlying54 hi hz0 hz1 hz2 rfl (by decide) _ j vs rfl ?own ⟨w3.heap.size, 0, none⟩ 1 1 [_] rfl rfl (by exact fun j u hj => (cell_new w3 20 _ j).trans hj) ?c2 ?c3 ?c4 ?c5 ?_) | go_values | go_skip | go_guarded | go_step | go_upon))
  case own => exact HO.out.alloc _
  case c2 => intro u hu; simp at hu; subst hu; rfl
  case c3 => unfold maxLen; omega
  case c4 => omega
  case c5 => have := hB.size; show _ ≤ (w3.alloc _).heap.size; simp; omega
  intro v' w1 hown hgrow _
  have hV2 := areV_snoc HO.out HX.out HV.out (x := .c128 X Y) (u := .iface 80 (.complex .f64 X Y)) rfl hgrow
  have hB2 := (hB.alloc hB.size (.cells #[.iface 80 (.complex .f64 X Y)] 20)).grown hgrow (by have := hB.size; show _ ≤ (w3.alloc _).heap.size; simp; omega) (fun g hg => (HO.out.lt g hg).1)
  have HO2 := Lib.hid hown
  have HV2 := Lib.hid hV2
  have HB2 := Lib.hid hB2
  clear hown hgrow hV2 hB2
  (repeat (first | go_values | go_skip | go_guarded | go_step | go_upon))
  skip
  rw [show m + (5 + n2) - 4 - (n2 + 1) = m by omega]
  refine HN.out _ w1 _ (c - 4 - (n2 + 1)) v' _ ⟨rfl, rfl, rfl, rfl, rfl, rfl⟩ (by omega) (by omega) ?rd HB2.out HO2.out HV2.out
  case rd =>
    refine ⟨HM.out, ?_⟩
    rcases Nat.eq_zero_or_pos m with h | h
    · exact .inl (List.eq_nil_of_length_eq_zero (HM.out.trans h))
    · refine .inr ⟨b, o + (5 + n2), by rw [if_neg (by omega)]; first | done | exact congrArg some (congrArg (Addr.mk b · none) (by omega)), hlt, fun i x hx => ?_⟩
      refine (HB2.out.cell (p := ⟨b, o + (5 + n2) + i, none⟩) hlt).trans ((hB.cell (p := ⟨b, o + (5 + n2) + i, none⟩) hlt).symm.trans ?_)
      exact HRS.out i x hx

set_option maxRecDepth 100000 in
set_option maxHeartbeats 4000000 in
theorem round23_c4_0 (xs ys2 : List UInt8) (hxl : xs.length = 4) (hyl : ys2.length = 0) (X Y : Nat) (hD : DecF 4 xs X) (hE : DecF 0 ys2 Y) : Round23 ((16 :: xs) ++ (12 :: ys2)) (.c128 X Y) := by
  obtain ⟨i0, hi, hz0, hz1, hz2⟩ := info_parts info20
  intro K Q0 w wr a c j rest v vs ys s4 u hlc hc hl hk hr hB hO hx hV hnext
  obtain ⟨b, o, rfl, hlt, hcell⟩ : ∃ b o, a = some ⟨b, o, none⟩ ∧ b < w.heap.size ∧ ∀ (i : Nat) (x : UInt8), (((16 :: xs) ++ (12 :: ys2)) ++ rest)[i]? = some x → wr.cell? ⟨b, o + i, none⟩ = some (.int .u8 (x.toNat : Int)) := by
    rcases hr.2 with h | h
    · cases h
    · exact h
  have hc0 : wr.cell? ⟨b, o, none⟩ = some (.int .u8 16) := hcell 0 16 rfl
  have hxs : ∀ (i : Nat) (x : UInt8), xs[i]? = some x → wr.cell? ⟨b, o + 1 + i, none⟩ = some (.int .u8 (x.toNat : Int)) := fun i x hi => by
    have hil : i < xs.length := (List.getElem?_eq_some_iff.1 hi).1
    have := hcell (i + 1) x (by rw [List.append_assoc, List.cons_append, List.getElem?_cons_succ, List.getElem?_append_left hil]; exact hi)
    rwa [show o + (i + 1) = o + 1 + i by omega] at this
  have hc1 : wr.cell? ⟨b, o + 5, none⟩ = some (.int .u8 12) := by
    have := hcell 5 (12) (by rw [List.append_assoc, List.getElem?_append_right (by simp only [List.length_cons]; omega)]; simp only [List.length_cons, hxl]; rfl)
    exact this
  have hys : ∀ (i : Nat) (x : UInt8), ys2[i]? = some x → wr.cell? ⟨b, o + 5 + 1 + i, none⟩ = some (.int .u8 (x.toNat : Int)) := fun i x hi => by
    have hil : i < ys2.length := (List.getElem?_eq_some_iff.1 hi).1
    have := hcell (i + 6) x (by
      rw [List.append_assoc, List.getElem?_append_right (by simp only [List.length_cons]; omega)]
      simp only [List.length_cons, hxl]
      rw [show i + 6 - (4 + 1) = i + 1 by omega, List.cons_append, List.getElem?_cons_succ, List.getElem?_append_left hil]
      exact hi)
    rwa [show o + (i + 6) = o + 5 + 1 + i by omega] at this
  have hch : ((16 :: xs) ++ (12 :: ys2)).length = 6 := by simp only [List.length_append, List.length_cons]; omega
  have hrs : ∀ (i : Nat) (x : UInt8), rest[i]? = some x → wr.cell? ⟨b, o + (6) + i, none⟩ = some (.int .u8 (x.toNat : Int)) := fun i x hi => by
    have := hcell (i + (6)) x (by rw [List.getElem?_append_right (by omega), hch, Nat.add_sub_cancel]; exact hi)
    rwa [show o + (i + (6)) = o + (6) + i by omega] at this
  have hlen : (((16 :: xs) ++ (12 :: ys2)) ++ rest).length = rest.length + (6) := by rw [List.length_append, hch, Nat.add_comm]
  rw [hlen] at hlc hl
  rw [hlen]
  have HXS := Lib.hid hxs
  have HYS := Lib.hid hys
  have HRS := Lib.hid hrs
  have HN := Lib.hid hnext
  have HO := Lib.hid hO
  have HV := Lib.hid hV
  have HX := Lib.hid hx
  have HXL := Lib.hid hxl
  have HYL := Lib.hid hyl
  have HD := Lib.hid hD
  have HE := Lib.hid hE
  generalize hm : rest.length = m at *
  have HM := Lib.hid hm
  clear hr hcell hnext hlen hO hV hx hm hxs hys hrs hxl hyl hD hE hch
  conv => arg 2; whnf
  unfold frm23
  (repeat (first | go_values | go_skip | go_guarded | go_step | go_upon))
  refine (HD.out wr _ _ ⟨HXL.out, .inr ⟨b, o + 1, rfl, Nat.lt_of_lt_of_le hlt hB.size, HXS.out⟩⟩).mono ?_
  rintro e w2 ⟨rfl, rfl⟩
  dsimp only
  (repeat (first | go_values | go_skip | go_guarded | go_step | go_upon))
  refine (HE.out w2 _ _ ⟨HYL.out, .inl (List.eq_nil_of_length_eq_zero HYL.out)⟩).mono ?_
  rintro e w3 ⟨rfl, rfl⟩
  dsimp only
  (repeat (first | (at_builtin; refine wpList_append_own _ rfl (.tmp 153) (.tmp 161) 54 rfl w.heap.size 20 i0 _ 1 16 Tryd.underlying54 hi hz0 hz1 hz2 rfl (by decide) _ j vs rfl ?own ⟨w3.heap.size, 0, none⟩ 1 1 [_] rfl rfl (by exact fun j u hj => (cell_new w3 20 _ j).trans hj) ?c2 ?c3 ?c4 ?c5 ?_) | go_values | go_skip | go_guarded | go_step | go_upon))
  case own => exact HO.out.alloc _
  case c2 => intro u hu; simp at hu; subst hu; rfl
  case c3 => unfold maxLen; omega
  case c4 => omega
  case c5 => have := hB.size; show _ ≤ (w3.alloc _).heap.size; simp; omega
  intro v' w1 hown hgrow _
  have hV2 := areV_snoc HO.out HX.out HV.out (x := .c128 X Y) (u := .iface 80 (.complex .f64 X Y)) rfl hgrow
  have hB2 := (hB.alloc hB.size (.cells #[.iface 80 (.complex .f64 X Y)] 20)).grown hgrow (by have := hB.size; show _ ≤ (w3.alloc _).heap.size; simp; omega) (fun g hg => (HO.out.lt g hg).1)
  have HO2 := Lib.hid hown
  have HV2 := Lib.hid hV2
  have HB2 := Lib.hid hB2
  clear hown hgrow hV2 hB2
  (repeat (first | go_values | go_skip | go_guarded | go_step | go_upon))
  skip
  skip
  refine HN.out _ w1 _ (c - 5 - 1) v' _ ⟨rfl, rfl, rfl, rfl, rfl, rfl⟩ (by omega) (by omega) ?rd HB2.out HO2.out HV2.out
  case rd =>
    refine ⟨HM.out, ?_⟩
    rcases Nat.eq_zero_or_pos m with h | h
    · exact .inl (List.eq_nil_of_length_eq_zero (HM.out.trans h))
    · refine .inr ⟨b, o + (6), by rw [if_neg (by omega)], hlt, fun i x hx => ?_⟩
      refine (HB2.out.cell (p := ⟨b, o + (6) + i, none⟩) hlt).trans ((hB.cell (p := ⟨b, o + (6) + i, none⟩) hlt).symm.trans ?_)
      exact HRS.out i x hx

set_option maxRecDepth 100000 in
set_option maxHeartbeats 4000000 in
theorem round23_c4_1 (xs ys2 : List UInt8) (hxl : xs.length = 4) (n2 : Nat) (hn1 : 1 ≤ n2) (hn8 : n2 ≤ 8) (hyl : ys2.length = n2) (X Y : Nat) (hD : DecF 4 xs X) (hE : DecF n2 ys2 Y) : Round23 ((16 :: xs) ++ (UInt8.ofNat (12 + n2) :: ys2)) (.c128 X Y) := by
  obtain ⟨i0, hi, hz0, hz1, hz2⟩ := info_parts info20
  intro K Q0 w wr a c j rest v vs ys s4 u hlc hc hl hk hr hB hO hx hV hnext
  obtain ⟨b, o, rfl, hlt, hcell⟩ : ∃ b o, a = some ⟨b, o, none⟩ ∧ b < w.heap.size ∧ ∀ (i : Nat) (x : UInt8), (((16 :: xs) ++ (UInt8.ofNat (12 + n2) :: ys2)) ++ rest)[i]? = some x → wr.cell? ⟨b, o + i, none⟩ = some (.int .u8 (x.toNat : Int)) := by
    rcases hr.2 with h | h
    · cases h
    · exact h
  have hc0 : wr.cell? ⟨b, o, none⟩ = some (.int .u8 16) := hcell 0 16 rfl
  have hxs : ∀ (i : Nat) (x : UInt8), xs[i]? = some x → wr.cell? ⟨b, o + 1 + i, none⟩ = some (.int .u8 (x.toNat : Int)) := fun i x hi => by
    have hil : i < xs.length := (List.getElem?_eq_some_iff.1 hi).1
    have := hcell (i + 1) x (by rw [List.append_assoc, List.cons_append, List.getElem?_cons_succ, List.getElem?_append_left hil]; exact hi)
    rwa [show o + (i + 1) = o + 1 + i by omega] at this
  have hc1 : wr.cell? ⟨b, o + 5, none⟩ = some (.int .u8 (12 + (n2 : Int))) := by
    have := hcell 5 (UInt8.ofNat (12 + n2)) (by rw [List.append_assoc, List.getElem?_append_right (by simp only [List.length_cons]; omega)]; simp only [List.length_cons, hxl]; rfl)
    rwa [show ((UInt8.ofNat (12 + n2)).toNat : Int) = 12 + (n2 : Int) by rw [UInt8.toNat_ofNat']; omega] at this
  obtain ⟨T, hT⟩ : ∃ T : Int, 12 + (n2 : Int) = T := ⟨_, rfl⟩
  rw [hT] at hc1
  have hT1 : (T < 12) = False := by rw [eq_iff_iff, iff_false]; omega
  have hT2 : (20 < T) = False := by rw [eq_iff_iff, iff_false]; omega
  have hT3 : 12 ≤ T := by omega
  have hT4 : T ≤ 20 := by omega
  have hTn : 1 + T - 12 = (n2 : Int) + 1 := by omega
  clear hT
  have hys : ∀ (i : Nat) (x : UInt8), ys2[i]? = some x → wr.cell? ⟨b, o + 5 + 1 + i, none⟩ = some (.int .u8 (x.toNat : Int)) := fun i x hi => by
    have hil : i < ys2.length := (List.getElem?_eq_some_iff.1 hi).1
    have := hcell (i + 6) x (by
      rw [List.append_assoc, List.getElem?_append_right (by simp only [List.length_cons]; omega)]
      simp only [List.length_cons, hxl]
      rw [show i + 6 - (4 + 1) = i + 1 by omega, List.cons_append, List.getElem?_cons_succ, List.getElem?_append_left hil]
      exact hi)
    rwa [show o + (i + 6) = o + 5 + 1 + i by omega] at this
  have hch : ((16 :: xs) ++ (UInt8.ofNat (12 + n2) :: ys2)).length = 6 + n2 := by simp only [List.length_append, List.length_cons]; omega
  have hrs : ∀ (i : Nat) (x : UInt8), rest[i]? = some x → wr.cell? ⟨b, o + (6 + n2) + i, none⟩ = some (.int .u8 (x.toNat : Int)) := fun i x hi => by
    have := hcell (i + (6 + n2)) x (by rw [List.getElem?_append_right (by omega), hch, Nat.add_sub_cancel]; exact hi)
    rwa [show o + (i + (6 + n2)) = o + (6 + n2) + i by omega] at this
  have hlen : (((16 :: xs) ++ (UInt8.ofNat (12 + n2) :: ys2)) ++ rest).length = rest.length + (6 + n2) := by rw [List.length_append, hch, Nat.add_comm]
  rw [hlen] at hlc hl
  rw [hlen]
  have HXS := Lib.hid hxs
  have HYS := Lib.hid hys
  have HRS := Lib.hid hrs
  have HN := Lib.hid hnext
  have HO := Lib.hid hO
  have HV := Lib.hid hV
  have HX := Lib.hid hx
  have HXL := Lib.hid hxl
  have HYL := Lib.hid hyl
  have HD := Lib.hid hD
  have HE := Lib.hid hE
  generalize hm : rest.length = m at *
  have HM := Lib.hid hm
  clear hr hcell hnext hlen hO hV hx hm hxs hys hrs hxl hyl hD hE hch
  conv => arg 2; whnf
  unfold frm23
  (repeat (first | go_values | go_skip | go_guarded | go_step | go_upon))
  refine (HD.out wr _ _ ⟨HXL.out, .inr ⟨b, o + 1, rfl, Nat.lt_of_lt_of_le hlt hB.size, HXS.out⟩⟩).mono ?_
  rintro e w2 ⟨rfl, rfl⟩
  dsimp only
  (repeat (first | go_values | go_skip | go_guarded | go_step | go_upon))
  refine (HE.out w2 _ _ ⟨HYL.out, .inr ⟨b, o + 5 + 1, rfl, Nat.lt_of_lt_of_le hlt hB.size, HYS.out⟩⟩).mono ?_
  rintro e w3 ⟨rfl, rfl⟩
  dsimp only
  (repeat (first | (at_builtin; refine wpList_append_own _ rfl (.tmp 153) (.tmp 161) 54 rfl w.heap.size 20 i0 _ 1 16 Tryd.underlying54 hi hz0 hz1 hz2 rfl (by decide) _ j vs rfl ?own ⟨w3.heap.size, 0, none⟩ 1 1 [_] rfl rfl (by exact fun j u hj => (cell_new w3 20 _ j).trans hj) ?c2 ?c3 ?c4 ?c5 ?_) | go_values | go_skip | go_guarded | go_step | go_upon))
  case own => exact HO.out.alloc _
  case c2 => intro u hu; simp at hu; subst hu; rfl
  case c3 => unfold maxLen; omega
  case c4 => omega
  case c5 => have := hB.size; show _ ≤ (w3.alloc _).heap.size; simp; omega
  intro v' w1 hown hgrow _
  have hV2 := areV_snoc HO.out HX.out HV.out (x := .c128 X Y) (u := .iface 80 (.complex .f64 X Y)) rfl hgrow
  have hB2 := (hB.alloc hB.size (.cells #[.iface 80 (.complex .f64 X Y)] 20)).grown hgrow (by have := hB.size; show _ ≤ (w3.alloc _).heap.size; simp; omega) (fun g hg => (HO.out.lt g hg).1)
  have HO2 := Lib.hid hown
  have HV2 := Lib.hid hV2
  have HB2 := Lib.hid hB2
  clear hown hgrow hV2 hB2
  (repeat (first | go_values | go_skip | go_guarded | go_step | go_upon))
  skip
  rw [show m + (6 + n2) - 5 - (n2 + 1) = m by omega]
  refine HN.out _ w1 _ (c - 5 - (n2 + 1)) v' _ ⟨rfl, rfl, rfl, rfl, rfl, rfl⟩ (by omega) (by omega) ?rd HB2.out HO2.out HV2.out
  case rd =>
    refine ⟨HM.out, ?_⟩
    rcases Nat.eq_zero_or_pos m with h | h
    · exact .inl (List.eq_nil_of_length_eq_zero (HM.out.trans h))
    · refine .inr ⟨b, o + (6 + n2), by rw [if_neg (by omega)]; first | done | exact congrArg some (congrArg (Addr.mk b · none) (by omega)), hlt, fun i x hx => ?_⟩
      refine (HB2.out.cell (p := ⟨b, o + (6 + n2) + i, none⟩) hlt).trans ((hB.cell (p := ⟨b, o + (6 + n2) + i, none⟩) hlt).symm.trans ?_)
      exact HRS.out i x hx

end Go.Proofs.YtaoonpncnahhgaaDoor
