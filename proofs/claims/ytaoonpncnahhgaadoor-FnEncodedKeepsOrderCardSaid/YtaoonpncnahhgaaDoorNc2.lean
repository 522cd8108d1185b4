/-
  The rounds of DecodeScalars over complex numbers: first tags 17, 18, 19, 20.
-/
import Derived.Test.YtaoonpncnahhgaaDoorD10
namespace Go.Proofs.YtaoonpncnahhgaaDoor
open Go.RowKit

set_option maxRecDepth 100000 in
set_option maxHeartbeats 4000000 in
theorem round23_c5_0 (xs ys2 : List UInt8) (hxl : xs.length = 5) (hyl : ys2.length = 0) (X Y : Nat) (hD : DecF 5 xs X) (hE : DecF 0 ys2 Y) : Round23 ((17 :: xs) ++ (12 :: ys2)) (.c128 X Y) := by
  obtain ⟨i0, hi, hz0, hz1, hz2⟩ := info_parts info20
  intro K Q0 w wr a c j rest v vs ys s4 u hlc hc hl hk hr hB hO hx hV hnext
  obtain ⟨b, o, rfl, hlt, hcell⟩ : ∃ b o, a = some ⟨b, o, none⟩ ∧ b < w.heap.size ∧ ∀ (i : Nat) (x : UInt8), (((17 :: xs) ++ (12 :: ys2)) ++ rest)[i]? = some x → wr.cell? ⟨b, o + i, none⟩ = some (.int .u8 (x.toNat : Int)) := by
    rcases hr.2 with h | h
    · cases h
    · exact h
  have hc0 : wr.cell? ⟨b, o, none⟩ = some (.int .u8 17) := hcell 0 17 rfl
  have hxs : ∀ (i : Nat) (x : UInt8), xs[i]? = some x → wr.cell? ⟨b, o + 1 + i, none⟩ = some (.int .u8 (x.toNat : Int)) := fun i x hi => by
    have hil : i < xs.length := (List.getElem?_eq_some_iff.1 hi).1
    have := hcell (i + 1) x (by rw [List.append_assoc, List.cons_append, List.getElem?_cons_succ, List.getElem?_append_left hil]; exact hi)
    rwa [show o + (i + 1) = o + 1 + i by omega] at this
  have hc1 : wr.cell? ⟨b, o + 6, none⟩ = some (.int .u8 12) := by
    have := hcell 6 (12) (by rw [List.append_assoc, List.getElem?_append_right (by simp only [List.length_cons]; omega)]; simp only [List.length_cons, hxl]; rfl)
    exact this
  have hys : ∀ (i : Nat) (x : UInt8), ys2[i]? = some x → wr.cell? ⟨b, o + 6 + 1 + i, none⟩ = some (.int .u8 (x.toNat : Int)) := fun i x hi => by
    have hil : i < ys2.length := (List.getElem?_eq_some_iff.1 hi).1
    have := hcell (i + 7) x (by
      rw [List.append_assoc, List.getElem?_append_right (by simp only [List.length_cons]; omega)]
      simp only [List.length_cons, hxl]
      rw [show i + 7 - (5 + 1) = i + 1 by omega, List.cons_append, List.getElem?_cons_succ, List.getElem?_append_left hil]
      exact hi)
    rwa [show o + (i + 7) = o + 6 + 1 + i by omega] at this
  have hch : ((17 :: xs) ++ (12 :: ys2)).length = 7 := by simp only [List.length_append, List.length_cons]; omega
  have hrs : ∀ (i : Nat) (x : UInt8), rest[i]? = some x → wr.cell? ⟨b, o + (7) + i, none⟩ = some (.int .u8 (x.toNat : Int)) := fun i x hi => by
    have := hcell (i + (7)) x (by rw [List.getElem?_append_right (by omega), hch, Nat.add_sub_cancel]; exact hi)
    rwa [show o + (i + (7)) = o + (7) + i by omega] at this
  have hlen : (((17 :: xs) ++ (12 :: ys2)) ++ rest).length = rest.length + (7) := by rw [List.length_append, hch, Nat.add_comm]
  rw [hlen] at hlc hl
  rw [hlen]
  have HXS := Lib.hid hxs
  have HYS := Lib.hid hys
  have HRS := Lib.hid hrs
  have HN := Lib.hid hnext
  have HO := Lib.hid hO
  have HV := Lib.hid hV
  have HX := Lib.hid hx
  have HXL := Lib.hid hxl
  have HYL := Lib.hid hyl
  have HD := Lib.hid hD
  have HE := Lib.hid hE
  generalize hm : rest.length = m at *
  have HM := Lib.hid hm
  clear hr hcell hnext hlen hO hV hx hm hxs hys hrs hxl hyl hD hE hch
  conv => arg 2; whnf
  unfold frm23
  (repeat (first | go_values | go_skip | go_guarded | go_step | go_upon))
  refine (HD.out wr _ _ ⟨HXL.out, .inr ⟨b, o + 1, rfl, Nat.lt_of_lt_of_le hlt hB.size, HXS.out⟩⟩).mono ?_
  rintro e w2 ⟨rfl, rfl⟩
  dsimp only
  (repeat (first | go_values | go_skip | go_guarded | go_step | go_upon))
  refine (HE.out w2 _ _ ⟨HYL.out, .inl (List.eq_nil_of_length_eq_zero HYL.out)⟩).mono ?_
  rintro e w3 ⟨rfl, rfl⟩
  dsimp only
  (repeat (first | (at_builtin; refine wpList_append_own _ rfl (.tmp 153) (.tmp 161) 54 rfl w.heap.size 20 i0 _ 1 16 Tryd.underlying54 hi hz0 hz1 hz2 rfl (by decide) _ j vs rfl ?own ⟨w3.heap.size, 0, none⟩ 1 1 [_] rfl rfl (by exact fun j u hj => (cell_new w3 20 _ j).trans hj) ?c2 ?c3 ?c4 ?c5 ?_) | go_values | go_skip | go_guarded | go_step | go_upon))
  case own => exact HO.out.alloc _
  case c2 => intro u hu; simp at hu; subst hu; rfl
  case c3 => unfold maxLen; omega
  case c4 => omega
  case c5 => have := hB.size; show _ ≤ (w3.alloc _).heap.size; simp; omega
  intro v' w1 hown hgrow _
  have hV2 := areV_snoc HO.out HX.out HV.out (x := .c128 X Y) (u := .iface 80 (.complex .f64 X Y)) rfl hgrow
  have hB2 := (hB.alloc hB.size (.cells #[.iface 80 (.complex .f64 X Y)] 20)).grown hgrow (by have := hB.size; show _ ≤ (w3.alloc _).heap.size; simp; omega) (fun g hg => (HO.out.lt g hg).1)
  have HO2 := Lib.hid hown
  have HV2 := Lib.hid hV2
  have HB2 := Lib.hid hB2
  clear hown hgrow hV2 hB2
  (repeat (first | go_values | go_skip | go_guarded | go_step | go_upon))
  skip
  skip
  refine HN.out _ w1 _ (c - 6 - 1) v' _ ⟨rfl, rfl, rfl, rfl, rfl, rfl⟩ (by omega) (by omega) ?rd HB2.out HO2.out HV2.out
  case rd =>
    refine ⟨HM.out, ?_⟩
    rcases Nat.eq_zero_or_pos m with h | h
    · exact .inl (List.eq_nil_of_length_eq_zero (HM.out.trans h))
    · refine .inr ⟨b, o + (7), by rw [if_neg (by omega)], hlt, fun i x hx => ?_⟩
      refine (HB2.out.cell (p := ⟨b, o + (7) + i, none⟩) hlt).trans ((hB.cell (p := ⟨b, o + (7) + i, none⟩) hlt).symm.trans ?_)
      exact HRS.out i x hx

set_option maxRecDepth 100000 in
set_option maxHeartbeats 4000000 in
theorem round23_c5_1 (xs ys2 : List UInt8) (hxl : xs.length = 5) (n2 : Nat) (hn1 : 1 ≤ n2) (hn8 : n2 ≤ 8) (hyl : ys2.length = n2) (X Y : Nat) (hD : DecF 5 xs X) (hE : DecF n2 ys2 Y) : Round23 ((17 :: xs) ++ (UInt8.ofNat (12 + n2) :: ys2)) (.c128 X Y) := by
  obtain ⟨i0, hi, hz0, hz1, hz2⟩ := info_parts info20
  intro K Q0 w wr a c j rest v vs ys s4 u hlc hc hl hk hr hB hO hx hV hnext
  obtain ⟨b, o, rfl, hlt, hcell⟩ : ∃ b o, a = some ⟨b, o, none⟩ ∧ b < w.heap.size ∧ ∀ (i : Nat) (x : UInt8), (((17 :: xs) ++ (UInt8.ofNat (12 + n2) :: ys2)) ++ rest)[i]? = some x → wr.cell? ⟨b, o + i, none⟩ = some (.int .u8 (x.toNat : Int)) := by
    rcases hr.2 with h | h
    · cases h
    · exact h
  have hc0 : wr.cell? ⟨b, o, none⟩ = some (.int .u8 17) := hcell 0 17 rfl
  have hxs : ∀ (i : Nat) (x : UInt8), xs[i]? = some x → wr.cell? ⟨b, o + 1 + i, none⟩ = some (.int .u8 (x.toNat : Int)) := fun i x hi => by
    have hil : i < xs.length := (List.getElem?_eq_some_iff.1 hi).1
    have := hcell (i + 1) x (by rw [List.append_assoc, List.cons_append, List.getElem?_cons_succ, List.getElem?_append_left hil]; exact hi)
    rwa [show o + (i + 1) = o + 1 + i by omega] at this
  have hc1 : wr.cell? ⟨b, o + 6, none⟩ = some (.int .u8 (12 + (n2 : Int))) := by
    have := hcell 6 (UInt8.ofNat (12 + n2)) (by rw [List.append_assoc, List.getElem?_append_right (by simp only [List.length_cons]; omega)]; simp only [List.length_cons, hxl]; rfl)
    rwa [show ((UInt8.ofNat (12 + n2)).toNat : Int) = 12 + (n2 : Int) by rw [UInt8.toNat_ofNat']; omega] at this
  obtain ⟨T, hT⟩ : ∃ T : Int, 12 + (n2 : Int) = T := ⟨_, rfl⟩
  rw [hT] at hc1
  have hT1 : (T < 12) = False := by rw [eq_iff_iff, iff_false]; omega
  have hT2 : (20 < T) = False := by rw [eq_iff_iff, iff_false]; omega
  have hT3 : 12 ≤ T := by omega
  have hT4 : T ≤ 20 := by omega
  have hTn : 1 + T - 12 = (n2 : Int) + 1 := by omega
  clear hT
  have hys : ∀ (i : Nat) (x : UInt8), ys2[i]? = some x → wr.cell? ⟨b, o + 6 + 1 + i, none⟩ = some (.int .u8 (x.toNat : Int)) := fun i x hi => by
    have hil : i < ys2.length := (List.getElem?_eq_some_iff.1 hi).1
    have := hcell (i + 7) x (by
      rw [List.append_assoc, List.getElem?_append_right (by simp only [List.length_cons]; omega)]
      simp only [List.length_cons, hxl]
      rw [show i + 7 - (5 + 1) = i + 1 by omega, List.cons_append, List.getElem?_cons_succ, List.getElem?_append_left hil]
      exact hi)
    rwa [show o + (i + 7) = o + 6 + 1 + i by omega] at this
  have hch : ((17 :: xs) ++ (UInt8.ofNat (12 + n2) :: ys2)).length = 7 + n2 := by simp only [List.length_append, List.length_cons]; omega
  have hrs : ∀ (i : Nat) (x : UInt8), rest[i]? = some x → wr.cell? ⟨b, o + (7 + n2) + i, none⟩ = some (.int .u8 (x.toNat : Int)) := fun i x hi => by
    have := hcell (i + (7 + n2)) x (by rw [List.getElem?_append_right (by omega), hch, Nat.add_sub_cancel]; exact hi)
    rwa [show o + (i + (7 + n2)) = o + (7 + n2) + i by omega] at this
  have hlen : (((17 :: xs) ++ (UInt8.ofNat (12 + n2) :: ys2)) ++ rest).length = rest.length + (7 + n2) := by rw [List.length_append, hch, Nat.add_comm]
  rw [hlen] at hlc hl
  rw [hlen]
  have HXS := Lib.hid hxs
  have HYS := Lib.hid hys
  have HRS := Lib.hid hrs
  have HN := Lib.hid hnext
  have HO := Lib.hid hO
  have HV := Lib.hid hV
  have HX := Lib.hid hx
  have HXL := Lib.hid hxl
  have HYL := Lib.hid hyl
  have HD := Lib.hid hD
  have HE := Lib.hid hE
  generalize hm : rest.length = m at *
  have HM := Lib.hid hm
  clear hr hcell hnext hlen hO hV hx hm hxs hys hrs hxl hyl hD hE hch
  conv => arg 2; whnf
  unfold frm23
  (repeat (first | go_values | go_skip | go_guarded | go_step | go_upon))
  refine (HD.out wr _ _ ⟨HXL.out, .inr ⟨b, o + 1, rfl, Nat.lt_of_lt_of_le hlt hB.size, HXS.out⟩⟩).mono ?_
  rintro e w2 ⟨rfl, rfl⟩
  dsimp only
  (repeat (first | go_values | go_skip | go_guarded | go_step | go_upon))
  refine (HE.out w2 _ _ ⟨HYL.out, .inr ⟨b, o + 6 + 1, rfl, Nat.lt_of_lt_of_le hlt hB.size, HYS.out⟩⟩).mono ?_
  rintro e w3 ⟨rfl, rfl⟩
  dsimp only
  (repeat (first | (at_builtin; refine wpList_append_own _ rfl (.tmp 153) (.tmp 161) 54 rfl w.heap.size 20 i0 _ 1 16 Tryd.underlying54 hi hz0 hz1 hz2 rfl (by decide) _ j vs rfl ?own ⟨w3.heap.size, 0, none⟩ 1 1 [_] rfl rfl (by exact fun j u hj => (cell_new w3 20 _ j).trans hj) ?c2 ?c3 ?c4 ?c5 ?_) | go_values | go_skip | go_guarded | go_step | go_upon))
  case own => exact HO.out.alloc _
  case c2 => intro u hu; simp at hu; subst hu; rfl
  case c3 => unfold maxLen; omega
  case c4 => omega
  case c5 => have := hB.size; show _ ≤ (w3.alloc _).heap.size; simp; omega
  intro v' w1 hown hgrow _
  have hV2 := areV_snoc HO.out HX.out HV.out (x := .c128 X Y) (u := .iface 80 (.complex .f64 X Y)) rfl hgrow
  have hB2 := (hB.alloc hB.size (.cells #[.iface 80 (.complex .f64 X Y)] 20)).grown hgrow (by have := hB.size; show _ ≤ (w3.alloc _).heap.size; simp; omega) (fun g hg => (HO.out.lt g hg).1)
  have HO2 := Lib.hid hown
  have HV2 := Lib.hid hV2
  have HB2 := Lib.hid hB2
  clear hown hgrow hV2 hB2
  (repeat (first | go_values | go_skip | go_guarded | go_step | go_upon))
  skip
  rw [show m + (7 + n2) - 6 - (n2 + 1) = m by omega]
  refine HN.out _ w1 _ (c - 6 - (n2 + 1)) v' _ ⟨rfl, rfl, rfl, rfl, rfl, rfl⟩ (by omega) (by omega) ?rd HB2.out HO2.out HV2.out
  case rd =>
    refine ⟨HM.out, ?_⟩
    rcases Nat.eq_zero_or_pos m with h | h
    · exact .inl (List.eq_nil_of_length_eq_zero (HM.out.trans h))
    · refine .inr ⟨b, o + (7 + n2), by rw [if_neg (by omega)]; first | done | exact congrArg some (congrArg (Addr.mk b · none) (by omega)), hlt, fun i x hx => ?_⟩
      refine (HB2.out.cell (p := ⟨b, o + (7 + n2) + i, none⟩) hlt).trans ((hB.cell (p := ⟨b, o + (7 + n2) + i, none⟩) hlt).symm.trans ?_)
      exact HRS.out i x hx

set_option maxRecDepth 100000 in
set_option maxHeartbeats 4000000 in
theorem round23_c6_0 (xs ys2 : List UInt8) (hxl : xs.length = 6) (hyl : ys2.length = 0) (X Y : Nat) (hD : DecF 6 xs X) (hE : DecF 0 ys2 Y) : Round23 ((18 :: xs) ++ (12 :: ys2)) (.c128 X Y) := by
  obtain ⟨i0, hi, hz0, hz1, hz2⟩ := info_parts info20
  intro K Q0 w wr a c j rest v vs ys s4 u hlc hc hl hk hr hB hO hx hV hnext
  obtain ⟨b, o, rfl, hlt, hcell⟩ : ∃ b o, a = some ⟨b, o, none⟩ ∧ b < w.heap.size ∧ ∀ (i : Nat) (x : UInt8), (((18 :: xs) ++ (12 :: ys2)) ++ rest)[i]? = some x → wr.cell? ⟨b, o + i, none⟩ = some (.int .u8 (x.toNat : Int)) := by
    rcases hr.2 with h | h
    · cases h
    · exact h
  have hc0 : wr.cell? ⟨b, o, none⟩ = some (.int .u8 18) := hcell 0 18 rfl
  have hxs : ∀ (i : Nat) (x : UInt8), xs[i]? = some x → wr.cell? ⟨b, o + 1 + i, none⟩ = some (.int .u8 (x.toNat : Int)) := fun i x hi => by
    have hil : i < xs.length := (List.getElem?_eq_some_iff.1 hi).1
    have := hcell (i + 1) x (by rw [List.append_assoc, List.cons_append, List.getElem?_cons_succ, List.getElem?_append_left hil]; exact hi)
    rwa [show o + (i + 1) = o + 1 + i by omega] at this
  have hc1 : wr.cell? ⟨b, o + 7, none⟩ = some (.int .u8 12) := by
    have := hcell 7 (12) (by rw [List.append_assoc, List.getElem?_append_right (by simp only [List.length_cons]; omega)]; simp only [List.length_cons, hxl]; rfl)
    exact this
  have hys : ∀ (i : Nat) (x : UInt8), ys2[i]? = some x → wr.cell? ⟨b, o + 7 + 1 + i, none⟩ = some (.int .u8 (x.toNat : Int)) := fun i x hi => by
    have hil : i < ys2.length := (List.getElem?_eq_some_iff.1 hi).1
    have := hcell (i + 8) x (by
      rw [List.append_assoc, List.getElem?_append_right (by simp only [List.length_cons]; omega)]
      simp only [List.length_cons, hxl]
      rw [show i + 8 - (6 + 1) = i + 1 by omega, List.cons_append, List.getElem?_cons_succ, List.getElem?_append_left hil]
      exact hi)
    rwa [show o + (i + 8) = o + 7 + 1 + i by omega] at this
  have hch : ((18 :: xs) ++ (12 :: ys2)).length = 8 := by simp only [List.length_append, List.length_cons]; omega
  have hrs : ∀ (i : Nat) (x : UInt8), rest[i]? = some x → wr.cell? ⟨b, o + (8) + i, none⟩ = some (.int .u8 (x.toNat : Int)) := fun i x hi => by
    have := hcell (i + (8)) x (by rw [List.getElem?_append_right (by omega), hch, Nat.add_sub_cancel]; exact hi)
    rwa [show o + (i + (8)) = o + (8) + i by omega] at this
  have hlen : (((18 :: xs) ++ (12 :: ys2)) ++ rest).length = rest.length + (8) := by rw [List.length_append, hch, Nat.add_comm]
  rw [hlen] at hlc hl
  rw [hlen]
  have HXS := Lib.hid hxs
  have HYS := Lib.hid hys
  have HRS := Lib.hid hrs
  have HN := Lib.hid hnext
  have HO := Lib.hid hO
  have HV := Lib.hid hV
  have HX := Lib.hid hx
  have HXL := Lib.hid hxl
  have HYL := Lib.hid hyl
  have HD := Lib.hid hD
  have HE := Lib.hid hE
  generalize hm : rest.length = m at *
  have HM := Lib.hid hm
  clear hr hcell hnext hlen hO hV hx hm hxs hys hrs hxl hyl hD hE hch
  conv => arg 2; whnf
  unfold frm23
  (repeat (first | go_values | go_skip | go_guarded | go_step | go_upon))
  refine (HD.out wr _ _ ⟨HXL.out, .inr ⟨b, o + 1, rfl, Nat.lt_of_lt_of_le hlt hB.size, HXS.out⟩⟩).mono ?_
  rintro e w2 ⟨rfl, rfl⟩
  dsimp only
  (repeat (first | go_values | go_skip | go_guarded | go_step | go_upon))
  refine (HE.out w2 _ _ ⟨HYL.out, .inl (List.eq_nil_of_length_eq_zero HYL.out)⟩).mono ?_
  rintro e w3 ⟨rfl, rfl⟩
  dsimp only
  (repeat (first | (at_builtin; refine wpList_append_own _ rfl (.tmp 153) (.tmp 161) 54 rfl w.heap.size 20 i0 _ 1 16 Tryd.underlying54 hi hz0 hz1 hz2 rfl (by decide) _ j vs rfl ?own ⟨w3.heap.size, 0, none⟩ 1 1 [_] rfl rfl (by exact fun j u hj => (cell_new w3 20 _ j).trans hj) ?c2 ?c3 ?c4 ?c5 ?_) | go_values | go_skip | go_guarded | go_step | go_upon))
  case own => exact HO.out.alloc _
  case c2 => intro u hu; simp at hu; subst hu; rfl
  case c3 => unfold maxLen; omega
  case c4 => omega
  case c5 => have := hB.size; show _ ≤ (w3.alloc _).heap.size; simp; omega
  intro v' w1 hown hgrow _
  have hV2 := areV_snoc HO.out HX.out HV.out (x := .c128 X Y) (u := .iface 80 (.complex .f64 X Y)) rfl hgrow
  have hB2 := (hB.alloc hB.size (.cells #[.iface 80 (.complex .f64 X Y)] 20)).grown hgrow (by have := hB.size; show _ ≤ (w3.alloc _).heap.size; simp; omega) (fun g hg => (HO.out.lt g hg).1)
  have HO2 := Lib.hid hown
  have HV2 := Lib.hid hV2
  have HB2 := Lib.hid hB2
  clear hown hgrow hV2 hB2
  (repeat (first | go_values | go_skip | go_guarded | go_step | go_upon))
  skip
  skip
  refine HN.out _ w1 _ (c - 7 - 1) v' _ ⟨rfl, rfl, rfl, rfl, rfl, rfl⟩ (by omega) (by omega) ?rd HB2.out HO2.out HV2.out
  case rd =>
    refine ⟨HM.out, ?_⟩
    rcases Nat.eq_zero_or_pos m with h | h
    · exact .inl (List.eq_nil_of_length_eq_zero (HM.out.trans h))
    · refine .inr ⟨b, o + (8), by rw [if_neg (by omega)], hlt, fun i x hx => ?_⟩
      refine (HB2.out.cell (p := ⟨b, o + (8) + i, none⟩) hlt).trans ((hB.cell (p := ⟨b, o + (8) + i, none⟩) hlt).symm.trans ?_)
      exact HRS.out i x hx

set_option maxRecDepth 100000 in
set_option maxHeartbeats 4000000 in
theorem round23_c6_1 (xs ys2 : List UInt8) (hxl : xs.length = 6) (n2 : Nat) (hn1 : 1 ≤ n2) (hn8 : n2 ≤ 8) (hyl : ys2.length = n2) (X Y : Nat) (hD : DecF 6 xs X) (hE : DecF n2 ys2 Y) : Round23 ((18 :: xs) ++ (UInt8.ofNat (12 + n2) :: ys2)) (.c128 X Y) := by
  obtain ⟨i0, hi, hz0, hz1, hz2⟩ := info_parts info20
  intro K Q0 w wr a c j rest v vs ys s4 u hlc hc hl hk hr hB hO hx hV hnext
  obtain ⟨b, o, rfl, hlt, hcell⟩ : ∃ b o, a = some ⟨b, o, none⟩ ∧ b < w.heap.size ∧ ∀ (i : Nat) (x : UInt8), (((18 :: xs) ++ (UInt8.ofNat (12 + n2) :: ys2)) ++ rest)[i]? = some x → wr.cell? ⟨b, o + i, none⟩ = some (.int .u8 (x.toNat : Int)) := by
    rcases hr.2 with h | h
    · cases h
    · exact h
  have hc0 : wr.cell? ⟨b, o, none⟩ = some (.int .u8 18) := hcell 0 18 rfl
  have hxs : ∀ (i : Nat) (x : UInt8), xs[i]? = some x → wr.cell? ⟨b, o + 1 + i, none⟩ = some (.int .u8 (x.toNat : Int)) := fun i x hi => by
    have hil : i < xs.length := (List.getElem?_eq_some_iff.1 hi).1
    have := hcell (i + 1) x (by rw [List.append_assoc, List.cons_append, List.getElem?_cons_succ, List.getElem?_append_left hil]; exact hi)
    rwa [show o + (i + 1) = o + 1 + i by omega] at this
  have hc1 : wr.cell? ⟨b, o + 7, none⟩ = some (.int .u8 (12 + (n2 : Int))) := by
    have := hcell 7 (UInt8.ofNat (12 + n2)) (by rw [List.append_assoc, List.getElem?_append_right (by simp only [List.length_cons]; omega)]; simp only [List.length_cons, hxl]; rfl)
    rwa [show ((UInt8.ofNat (12 + n2)).toNat : Int) = 12 + (n2 : Int) by rw [UInt8.toNat_ofNat']; omega] at this
  obtain ⟨T, hT⟩ : ∃ T : Int, 12 + (n2 : Int) = T := ⟨_, rfl⟩
  rw [hT] at hc1
  have hT1 : (T < 12) = False := by rw [eq_iff_iff, iff_false]; omega
  have hT2 : (20 < T) = False := by rw [eq_iff_iff, iff_false]; omega
  have hT3 : 12 ≤ T := by omega
  have hT4 : T ≤ 20 := by omega
  have hTn : 1 + T - 12 = (n2 : Int) + 1 := by omega
  clear hT
  have hys : ∀ (i : Nat) (x : UInt8), ys2[i]? = some x → wr.cell? ⟨b, o + 7 + 1 + i, none⟩ = some (.int .u8 (x.toNat : Int)) := fun i x hi => by
    have hil : i < ys2.length := (List.getElem?_eq_some_iff.1 hi).1
    have := hcell (i + 8) x (by
      rw [List.append_assoc, List.getElem?_append_right (by simp only [List.length_cons]; omega)]
      simp only [List.length_cons, hxl]
      rw [show i + 8 - (6 + 1) = i + 1 by omega, List.cons_append, List.getElem?_cons_succ, List.getElem?_append_left hil]
      exact hi)
    rwa [show o + (i + 8) = o + 7 + 1 + i by omega] at this
  have hch : ((18 :: xs) ++ (UInt8.ofNat (12 + n2) :: ys2)).length = 8 + n2 := by simp only [List.length_append, List.length_cons]; omega
  have hrs : ∀ (i : Nat) (x : UInt8), rest[i]? = some x → wr.cell? ⟨b, o + (8 + n2) + i, none⟩ = some (.int .u8 (x.toNat : Int)) := fun i x hi => by
    have := hcell (i + (8 + n2)) x (by rw [List.getElem?_append_right (by omega), hch, Nat.add_sub_cancel]; exact hi)
    rwa [show o + (i + (8 + n2)) = o + (8 + n2) + i by omega] at this
  have hlen : (((18 :: xs) ++ (UInt8.ofNat (12 + n2) :: ys2)) ++ rest).length = rest.length + (8 + n2) := by rw [List.length_append, hch, Nat.add_comm]
  rw [hlen] at hlc hl
  rw [hlen]
  have HXS := Lib.hid hxs
  have HYS := Lib.hid hys
  have HRS := Lib.hid hrs
  have HN := Lib.hid hnext
  have HO := Lib.hid hO
  have HV := Lib.hid hV
  have HX := Lib.hid hx
  have HXL := Lib.hid hxl
  have HYL := Lib.hid hyl
  have HD := Lib.hid hD
  have HE := Lib.hid hE
  generalize hm : rest.length = m at *
  have HM := Lib.hid hm
  clear hr hcell hnext hlen hO hV hx hm hxs hys hrs hxl hyl hD hE hch
  conv => arg 2; whnf
  unfold frm23
  (repeat (first | go_values | go_skip | go_guarded | go_step | go_upon))
  refine (HD.out wr _ _ ⟨HXL.out, .inr ⟨b, o + 1, rfl, Nat.lt_of_lt_of_le hlt hB.size, HXS.out⟩⟩).mono ?_
  rintro e w2 ⟨rfl, rfl⟩
  dsimp only
  (repeat (first | go_values | go_skip | go_guarded | go_step | go_upon))
  refine (HE.out w2 _ _ ⟨HYL.out, .inr ⟨b, o + 7 + 1, rfl, Nat.lt_of_lt_of_le hlt hB.size, HYS.out⟩⟩).mono ?_
  rintro e w3 ⟨rfl, rfl⟩
  dsimp only
  (repeat (first | (at_builtin; refine wpList_append_own _ rfl (.tmp 153) (.tmp 161) 54 rfl w.heap.size 20 i0 _ 1 16 Tryd.underlying54 hi hz0 hz1 hz2 rfl (by decide) _ j vs rfl ?own ⟨w3.heap.size, 0, none⟩ 1 1 [_] rfl rfl (by exact fun j u hj => (cell_new w3 20 _ j).trans hj) ?c2 ?c3 ?c4 ?c5 ?_) | go_values | go_skip | go_guarded | go_step | go_upon))
  case own => exact HO.out.alloc _
  case c2 => intro u hu; simp at hu; subst hu; rfl
  case c3 => unfold maxLen; omega
  case c4 => omega
  case c5 => have := hB.size; show _ ≤ (w3.alloc _).heap.size; simp; omega
  intro v' w1 hown hgrow _
  have hV2 := areV_snoc HO.out HX.out HV.out (x := .c128 X Y) (u := .iface 80 (.complex .f64 X Y)) rfl hgrow
  have hB2 := (hB.alloc hB.size (.cells #[.iface 80 (.complex .f64 X Y)] 20)).grown hgrow (by have := hB.size; show _ ≤ (w3.alloc _).heap.size; simp; omega) (fun g hg => (HO.out.lt g hg).1)
  have HO2 := Lib.hid hown
  have HV2 := Lib.hid hV2
  have HB2 := Lib.hid hB2
  clear hown hgrow hV2 hB2
  (repeat (first | go_values | go_skip | go_guarded | go_step | go_upon))
  skip
  rw [show m + (8 + n2) - 7 - (n2 + 1) = m by omega]
  refine HN.out _ w1 _ (c - 7 - (n2 + 1)) v' _ ⟨rfl, rfl, rfl, rfl, rfl, rfl⟩ (by omega) (by omega) ?rd HB2.out HO2.out HV2.out
  case rd =>
    refine ⟨HM.out, ?_⟩
    rcases Nat.eq_zero_or_pos m with h | h
    · exact .inl (List.eq_nil_of_length_eq_zero (HM.out.trans h))
    · refine .inr ⟨b, o + (8 + n2), by rw [if_neg (by omega)]; first | done | exact congrArg some (congrArg (Addr.mk b · none) (by omega)), hlt, fun i x hx => ?_⟩
      refine (HB2.out.cell (p := ⟨b, o + (8 + n2) + i, none⟩) hlt).trans ((hB.cell (p := ⟨b, o + (8 + n2) + i, none⟩) hlt).symm.trans ?_)
      exact HRS.out i x hx

set_option maxRecDepth 100000 in
set_option maxHeartbeats 4000000 in
theorem round23_c7_0 (xs ys2 : List UInt8) (hxl : xs.length = 7) (hyl : ys2.length = 0) (X Y : Nat) (hD : DecF 7 xs X) (hE : DecF 0 ys2 Y) : Round23 ((19 :: xs) ++ (12 :: ys2)) (.c128 X Y) := by
  obtain ⟨i0, hi, hz0, hz1, hz2⟩ := info_parts info20
  intro K Q0 w wr a c j rest v vs ys s4 u hlc hc hl hk hr hB hO hx hV hnext
  obtain ⟨b, o, rfl, hlt, hcell⟩ : ∃ b o, a = some ⟨b, o, none⟩ ∧ b < w.heap.size ∧ ∀ (i : Nat) (x : UInt8), (((19 :: xs) ++ (12 :: ys2)) ++ rest)[i]? = some x → wr.cell? ⟨b, o + i, none⟩ = some (.int .u8 (x.toNat : Int)) := by
    rcases hr.2 with h | h
    · cases h
    · exact h
  have hc0 : wr.cell? ⟨b, o, none⟩ = some (.int .u8 19) := hcell 0 19 rfl
  have hxs : ∀ (i : Nat) (x : UInt8), xs[i]? = some x → wr.cell? ⟨b, o + 1 + i, none⟩ = some (.int .u8 (x.toNat : Int)) := fun i x hi => by
    have hil : i < xs.length := (List.getElem?_eq_some_iff.1 hi).1
    have := hcell (i + 1) x (by rw [List.append_assoc, List.cons_append, List.getElem?_cons_succ, List.getElem?_append_left hil]; exact hi)
    rwa [show o + (i + 1) = o + 1 + i by omega] at this
  have hc1 : wr.cell? ⟨b, o + 8, none⟩ = some (.int .u8 12) := by
    have := hcell 8 (12) (by rw [List.append_assoc, List.getElem?_append_right (by simp only [List.length_cons]; omega)]; simp only [List.length_cons, hxl]; rfl)
    exact this
  have hys : ∀ (i : Nat) (x : UInt8), ys2[i]? = some x → wr.cell? ⟨b, o + 8 + 1 + i, none⟩ = some (.int .u8 (x.toNat : Int)) := fun i x hi => by
    have hil : i < ys2.length := (List.getElem?_eq_some_iff.1 hi).1
    have := hcell (i + 9) x (by
      rw [List.append_assoc, List.getElem?_append_right (by simp only [List.length_cons]; omega)]
      simp only [List.length_cons, hxl]
      rw [show i + 9 - (7 + 1) = i + 1 by omega, List.cons_append, List.getElem?_cons_succ, List.getElem?_append_left hil]
      exact hi)
    rwa [show o + (i + 9) = o + 8 + 1 + i by omega] at this
  have hch : ((19 :: xs) ++ (12 :: ys2)).length = 9 := by simp only [List.length_append, List.length_cons]; omega
  have hrs : ∀ (i : Nat) (x : UInt8), rest[i]? = some x → wr.cell? ⟨b, o + (9) + i, none⟩ = some (.int .u8 (x.toNat : Int)) := fun i x hi => by
    have := hcell (i + (9)) x (by rw [List.getElem?_append_right (by omega), hch, Nat.add_sub_cancel]; exact hi)
    rwa [show o + (i + (9)) = o + (9) + i by omega] at this
  have hlen : (((19 :: xs) ++ (12 :: ys2)) ++ rest).length = rest.length + (9) := by rw [List.length_append, hch, Nat.add_comm]
  rw [hlen] at hlc hl
  rw [hlen]
  have HXS := Lib.hid hxs
  have HYS := Lib.hid hys
  have HRS := Lib.hid hrs
  have HN := Lib.hid hnext
  have HO := Lib.hid hO
  have HV := Lib.hid hV
  have HX := Lib.hid hx
  have HXL := Lib.hid hxl
  have HYL := Lib.hid hyl
  have HD := Lib.hid hD
  have HE := Lib.hid hE
  generalize hm : rest.length = m at *
  have HM := Lib.hid hm
  clear hr hcell hnext hlen hO hV hx hm hxs hys hrs hxl hyl hD hE hch
  conv => arg 2; whnf
  unfold frm23
  (repeat (first | go_values | go_skip | go_guarded | go_step | go_upon))
  refine (HD.out wr _ _ ⟨HXL.out, .inr ⟨b, o + 1, rfl, Nat.lt_of_lt_of_le hlt hB.size, HXS.out⟩⟩).mono ?_
  rintro e w2 ⟨rfl, rfl⟩
  dsimp only
  (repeat (first | go_values | go_skip | go_guarded | go_step | go_upon))
  refine (HE.out w2 _ _ ⟨HYL.out, .inl (List.eq_nil_of_length_eq_zero HYL.out)⟩).mono ?_
  rintro e w3 ⟨rfl, rfl⟩
  dsimp only
  (repeat (first | (at_builtin; refine wpList_append_own _ rfl (.tmp 153) (.tmp 161) 54 rfl w.heap.size 20 i0 _ 1 16 Tryd.underlying54 hi hz0 hz1 hz2 rfl (by decide) _ j vs rfl ?own ⟨w3.heap.size, 0, none⟩ 1 1 [_] rfl rfl (by exact fun j u hj => (cell_new w3 20 _ j).trans hj) ?c2 ?c3 ?c4 ?c5 ?_) | go_values | go_skip | go_guarded | go_step | go_upon))
  case own => exact HO.out.alloc _
  case c2 => intro u hu; simp at hu; subst hu; rfl
  case c3 => unfold maxLen; omega
  case c4 => omega
  case c5 => have := hB.size; show _ ≤ (w3.alloc _).heap.size; simp; omega
  intro v' w1 hown hgrow _
  have hV2 := areV_snoc HO.out HX.out HV.out (x := .c128 X Y) (u := .iface 80 (.complex .f64 X Y)) rfl hgrow
  have hB2 := (hB.alloc hB.size (.cells #[.iface 80 (.complex .f64 X Y)] 20)).grown hgrow (by have := hB.size; show _ ≤ (w3.alloc _).heap.size; simp; omega) (fun g hg => (HO.out.lt g hg).1)
  have HO2 := Lib.hid hown
  have HV2 := Lib.hid hV2
  have HB2 := Lib.hid hB2
  clear hown hgrow hV2 hB2
  (repeat (first | go_values | go_skip | go_guarded | go_step | go_upon))
  skip
  skip
  refine HN.out _ w1 _ (c - 8 - 1) v' _ ⟨rfl, rfl, rfl, rfl, rfl, rfl⟩ (by omega) (by omega) ?rd HB2.out HO2.out HV2.out
  case rd =>
    refine ⟨HM.out, ?_⟩
    rcases Nat.eq_zero_or_pos m with h | h
    · exact .inl (List.eq_nil_of_length_eq_zero (HM.out.trans h))
    · refine .inr ⟨b, o + (9), by rw [if_neg (by omega)], hlt, fun i x hx => ?_⟩
      refine (HB2.out.cell (p := ⟨b, o + (9) + i, none⟩) hlt).trans ((hB.cell (p := ⟨b, o + (9) + i, none⟩) hlt).symm.trans ?_)
      exact HRS.out i x hx

set_option maxRecDepth 100000 in
set_option maxHeartbeats 4000000 in
theorem round23_c7_1 (xs ys2 : List UInt8) (hxl : xs.length = 7) (n2 : Nat) (hn1 : 1 ≤ n2) (hn8 : n2 ≤ 8) (hyl : ys2.length = n2) (X Y : Nat) (hD : DecF 7 xs X) (hE : DecF n2 ys2 Y) : Round23 ((19 :: xs) ++ (UInt8.ofNat (12 + n2) :: ys2)) (.c128 X Y) := by
  obtain ⟨i0, hi, hz0, hz1, hz2⟩ := info_parts info20
  intro K Q0 w wr a c j rest v vs ys s4 u hlc hc hl hk hr hB hO hx hV hnext
  obtain ⟨b, o, rfl, hlt, hcell⟩ : ∃ b o, a = some ⟨b, o, none⟩ ∧ b < w.heap.size ∧ ∀ (i : Nat) (x : UInt8), (((19 :: xs) ++ (UInt8.ofNat (12 + n2) :: ys2)) ++ rest)[i]? = some x → wr.cell? ⟨b, o + i, none⟩ = some (.int .u8 (x.toNat : Int)) := by
    rcases hr.2 with h | h
    · cases h
    · exact h
  have hc0 : wr.cell? ⟨b, o, none⟩ = some (.int .u8 19) := hcell 0 19 rfl
  have hxs : ∀ (i : Nat) (x : UInt8), xs[i]? = some x → wr.cell? ⟨b, o + 1 + i, none⟩ = some (.int .u8 (x.toNat : Int)) := fun i x hi => by
    have hil : i < xs.length := (List.getElem?_eq_some_iff.1 hi).1
    have := hcell (i + 1) x (by rw [List.append_assoc, List.cons_append, List.getElem?_cons_succ, List.getElem?_append_left hil]; exact hi)
    rwa [show o + (i + 1) = o + 1 + i by omega] at this
  have hc1 : wr.cell? ⟨b, o + 8, none⟩ = some (.int .u8 (12 + (n2 : Int))) := by
    have := hcell 8 (UInt8.ofNat (12 + n2)) (by rw [List.append_assoc, List.getElem?_append_right (by simp only [List.length_cons]; omega)]; simp only [List.length_cons, hxl]; rfl)
    rwa [show ((UInt8.ofNat (12 + n2)).toNat : Int) = 12 + (n2 : Int) by rw [UInt8.toNat_ofNat']; omega] at this
  obtain ⟨T, hT⟩ : ∃ T : Int, 12 + (n2 : Int) = T := ⟨_, rfl⟩
  rw [hT] at hc1
  have hT1 : (T < 12) = False := by rw [eq_iff_iff, iff_false]; omega
  have hT2 : (20 < T) = False := by rw [eq_iff_iff, iff_false]; omega
  have hT3 : 12 ≤ T := by omega
  have hT4 : T ≤ 20 := by omega
  have hTn : 1 + T - 12 = (n2 : Int) + 1 := by omega
  clear hT
  have hys : ∀ (i : Nat) (x : UInt8), ys2[i]? = some x → wr.cell? ⟨b, o + 8 + 1 + i, none⟩ = some (.int .u8 (x.toNat : Int)) := fun i x hi => by
    have hil : i < ys2.length := (List.getElem?_eq_some_iff.1 hi).1
    have := hcell (i + 9) x (by
      rw [List.append_assoc, List.getElem?_append_right (by simp only [List.length_cons]; omega)]
      simp only [List.length_cons, hxl]
      rw [show i + 9 - (7 + 1) = i + 1 by omega, List.cons_append, List.getElem?_cons_succ, List.getElem?_append_left hil]
      exact hi)
    rwa [show o + (i + 9) = o + 8 + 1 + i by omega] at this
  have hch : ((19 :: xs) ++ (UInt8.ofNat (12 + n2) :: ys2)).length = 9 + n2 := by simp only [List.length_append, List.length_cons]; omega
  have hrs : ∀ (i : Nat) (x : UInt8), rest[i]? = some x → wr.cell? ⟨b, o + (9 + n2) + i, none⟩ = some (.int .u8 (x.toNat : Int)) := fun i x hi => by
    have := hcell (i + (9 + n2)) x (by rw [List.getElem?_append_right (by omega), hch, Nat.add_sub_cancel]; exact hi)
    rwa [show o + (i + (9 + n2)) = o + (9 + n2) + i by omega] at this
  have hlen : (((19 :: xs) ++ (UInt8.ofNat (12 + n2) :: ys2)) ++ rest).length = rest.length + (9 + n2) := by rw [List.length_append, hch, Nat.add_comm]
  rw [hlen] at hlc hl
  rw [hlen]
  have HXS := Lib.hid hxs
  have HYS := Lib.hid hys
  have HRS := Lib.hid hrs
  have HN := Lib.hid hnext
  have HO := Lib.hid hO
  have HV := Lib.hid hV
  have HX := Lib.hid hx
  have HXL := Lib.hid hxl
  have HYL := Lib.hid hyl
  have HD := Lib.hid hD
  have HE := Lib.hid hE
  generalize hm : rest.length = m at *
  have HM := Lib.hid hm
  clear hr hcell hnext hlen hO hV hx hm hxs hys hrs hxl hyl hD hE hch
  conv => arg 2; whnf
  unfold frm23
  (repeat (first | go_values | go_skip | go_guarded | go_step | go_upon))
  refine (HD.out wr _ _ ⟨HXL.out, .inr ⟨b, o + 1, rfl, Nat.lt_of_lt_of_le hlt hB.size, HXS.out⟩⟩).mono ?_
  rintro e w2 ⟨rfl, rfl⟩
  dsimp only
  (repeat (first | go_values | go_skip | go_guarded | go_step | go_upon))
  refine (HE.out w2 _ _ ⟨HYL.out, .inr ⟨b, o + 8 + 1, rfl, Nat.lt_of_lt_of_le hlt hB.size, HYS.out⟩⟩).mono ?_
  rintro e w3 ⟨rfl, rfl⟩
  dsimp only
  (repeat (first | (at_builtin; refine wpList_append_own _ rfl (.tmp 153) (.tmp 161) 54 rfl w.heap.size 20 i0 _ 1 16 Tryd.underlying54 hi hz0 hz1 hz2 rfl (by decide) _ j vs rfl ?own ⟨w3.heap.size, 0, none⟩ 1 1 [_] rfl rfl (by exact fun j u hj => (cell_new w3 20 _ j).trans hj) ?c2 ?c3 ?c4 ?c5 ?_) | go_values | go_skip | go_guarded | go_step | go_upon))
  case own => exact HO.out.alloc _
  case c2 => intro u hu; simp at hu; subst hu; rfl
  case c3 => unfold maxLen; omega
  case c4 => omega
  case c5 => have := hB.size; show _ ≤ (w3.alloc _).heap.size; simp; omega
  intro v' w1 hown hgrow _
  have hV2 := areV_snoc HO.out HX.out HV.out (x := .c128 X Y) (u := .iface 80 (.complex .f64 X Y)) rfl hgrow
  have hB2 := (hB.alloc hB.size (.cells #[.iface 80 (.complex .f64 X Y)] 20)).grown hgrow (by have := hB.size; show _ ≤ (w3.alloc _).heap.size; simp; omega) (fun g hg => (HO.out.lt g hg).1)
  have HO2 := Lib.hid hown
  have HV2 := Lib.hid hV2
  have HB2 := Lib.hid hB2
  clear hown hgrow hV2 hB2
  (repeat (first | go_values | go_skip | go_guarded | go_step | go_upon))
  skip
  rw [show m + (9 + n2) - 8 - (n2 + 1) = m by omega]
  refine HN.out _ w1 _ (c - 8 - (n2 + 1)) v' _ ⟨rfl, rfl, rfl, rfl, rfl, rfl⟩ (by omega) (by omega) ?rd HB2.out HO2.out HV2.out
  case rd =>
    refine ⟨HM.out, ?_⟩
    rcases Nat.eq_zero_or_pos m with h | h
    · exact .inl (List.eq_nil_of_length_eq_zero (HM.out.trans h))
    · refine .inr ⟨b, o + (9 + n2), by rw [if_neg (by omega)]; first | done | exact congrArg some (congrArg (Addr.mk b · none) (by omega)), hlt, fun i x hx => ?_⟩
      refine (HB2.out.cell (p := ⟨b, o + (9 + n2) + i, none⟩) hlt).trans ((hB.cell (p := ⟨b, o + (9 + n2) + i, none⟩) hlt).symm.trans ?_)
      exact HRS.out i x hx

set_option maxRecDepth 100000 in
set_option maxHeartbeats 4000000 in
theorem round23_c8_0 (xs ys2 : List UInt8) (hxl : xs.length = 8) (hyl : ys2.length = 0) (X Y : Nat) (hD : DecF 8 xs X) (hE : DecF 0 ys2 Y) : Round23 ((20 :: xs) ++ (12 :: ys2)) (.c128 X Y) := by
  obtain ⟨i0, hi, hz0, hz1, hz2⟩ := info_parts info20
  intro K Q0 w wr a c j rest v vs ys s4 u hlc hc hl hk hr hB hO hx hV hnext
  obtain ⟨b, o, rfl, hlt, hcell⟩ : ∃ b o, a = some ⟨b, o, none⟩ ∧ b < w.heap.size ∧ ∀ (i : Nat) (x : UInt8), (((20 :: xs) ++ (12 :: ys2)) ++ rest)[i]? = some x → wr.cell? ⟨b, o + i, none⟩ = some (.int .u8 (x.toNat : Int)) := by
    rcases hr.2 with h | h
    · cases h
    · exact h
  have hc0 : wr.cell? ⟨b, o, none⟩ = some (.int .u8 20) := hcell 0 20 rfl
  have hxs : ∀ (i : Nat) (x : UInt8), xs[i]? = some x → wr.cell? ⟨b, o + 1 + i, none⟩ = some (.int .u8 (x.toNat : Int)) := fun i x hi => by
    have hil : i < xs.length := (List.getElem?_eq_some_iff.1 hi).1
    have := hcell (i + 1) x (by rw [List.append_assoc, List.cons_append, List.getElem?_cons_succ, List.getElem?_append_left hil]; exact hi)
    rwa [show o + (i + 1) = o + 1 + i by omega] at this
  have hc1 : wr.cell? ⟨b, o + 9, none⟩ = some (.int .u8 12) := by
    have := hcell 9 (12) (by rw [List.append_assoc, List.getElem?_append_right (by simp only [List.length_cons]; omega)]; simp only [List.length_cons, hxl]; rfl)
    exact this
  have hys : ∀ (i : Nat) (x : UInt8), ys2[i]? = some x → wr.cell? ⟨b, o + 9 + 1 + i, none⟩ = some (.int .u8 (x.toNat : Int)) := fun i x hi => by
    have hil : i < ys2.length := (List.getElem?_eq_some_iff.1 hi).1
    have := hcell (i + 10) x (by
      rw [List.append_assoc, List.getElem?_append_right (by simp only [List.length_cons]; omega)]
      simp only [List.length_cons, hxl]
      rw [show i + 10 - (8 + 1) = i + 1 by omega, List.cons_append, List.getElem?_cons_succ, List.getElem?_append_left hil]
      exact hi)
    rwa [show o + (i + 10) = o + 9 + 1 + i by omega] at this
  have hch : ((20 :: xs) ++ (12 :: ys2)).length = 10 := by simp only [List.length_append, List.length_cons]; omega
  have hrs : ∀ (i : Nat) (x : UInt8), rest[i]? = some x → wr.cell? ⟨b, o + (10) + i, none⟩ = some (.int .u8 (x.toNat : Int)) := fun i x hi => by
    have := hcell (i + (10)) x (by rw [List.getElem?_append_right (by omega), hch, Nat.add_sub_cancel]; exact hi)
    rwa [show o + (i + (10)) = o + (10) + i by omega] at this
  have hlen : (((20 :: xs) ++ (12 :: ys2)) ++ rest).length = rest.length + (10) := by rw [List.length_append, hch, Nat.add_comm]
  rw [hlen] at hlc hl
  rw [hlen]
  have HXS := Lib.hid hxs
  have HYS := Lib.hid hys
  have HRS := Lib.hid hrs
  have HN := Lib.hid hnext
  have HO := Lib.hid hO
  have HV := Lib.hid hV
  have HX := Lib.hid hx
  have HXL := Lib.hid hxl
  have HYL := Lib.hid hyl
  have HD := Lib.hid hD
  have HE := Lib.hid hE
  generalize hm : rest.length = m at *
  have HM := Lib.hid hm
  clear hr hcell hnext hlen hO hV hx hm hxs hys hrs hxl hyl hD hE hch
  conv => arg 2; whnf
  unfold frm23
  (repeat (first | go_values | go_skip | go_guarded | go_step | go_upon))
  refine (HD.out wr _ _ ⟨HXL.out, .inr ⟨b, o + 1, rfl, Nat.lt_of_lt_of_le hlt hB.size, HXS.out⟩⟩).mono ?_
  rintro e w2 ⟨rfl, rfl⟩
  dsimp only
  (repeat (first | go_values | go_skip | go_guarded | go_step | go_upon))
  refine (HE.out w2 _ _ ⟨HYL.out, .inl (List.eq_nil_of_length_eq_zero HYL.out)⟩).mono ?_
  rintro e w3 ⟨rfl, rfl⟩
  dsimp only
  (repeat (first | (at_builtin; refine wpList_append_own _ rfl (.tmp 153) (.tmp 161) 54 rfl w.heap.size 20 i0 _ 1 16 Tryd.underlying54 hi hz0 hz1 hz2 rfl (by decide) _ j vs rfl ?own ⟨w3.heap.size, 0, none⟩ 1 1 [_] rfl rfl (by exact fun j u hj => (cell_new w3 20 _ j).trans hj) ?c2 ?c3 ?c4 ?c5 ?_) | go_values | go_skip | go_guarded | go_step | go_upon))
  case own => exact HO.out.alloc _
  case c2 => intro u hu; simp at hu; subst hu; rfl
  case c3 => unfold maxLen; omega
  case c4 => omega
  case c5 => have := hB.size; show _ ≤ (w3.alloc _).heap.size; simp; omega
  intro v' w1 hown hgrow _
  have hV2 := areV_snoc HO.out HX.out HV.out (x := .c128 X Y) (u := .iface 80 (.complex .f64 X Y)) rfl hgrow
  have hB2 := (hB.alloc hB.size (.cells #[.iface 80 (.complex .f64 X Y)] 20)).grown hgrow (by have := hB.size; show _ ≤ (w3.alloc _).heap.size; simp; omega) (fun g hg => (HO.out.lt g hg).1)
  have HO2 := Lib.hid hown
  have HV2 := Lib.hid hV2
  have HB2 := Lib.hid hB2
  clear hown hgrow hV2 hB2
  (repeat (first | go_values | go_skip | go_guarded | go_step | go_upon))
  skip
  skip
  refine HN.out _ w1 _ (c - 9 - 1) v' _ ⟨rfl, rfl, rfl, rfl, rfl, rfl⟩ (by omega) (by omega) ?rd HB2.out HO2.out HV2.out
  case rd =>
    refine ⟨HM.out, ?_⟩
    rcases Nat.eq_zero_or_pos m with h | h
    · exact .inl (List.eq_nil_of_length_eq_zero (HM.out.trans h))
    · refine .inr ⟨b, o + (10), by rw [if_neg (by omega)], hlt, fun i x hx => ?_⟩
      refine (HB2.out.cell (p := ⟨b, o + (10) + i, none⟩) hlt).trans ((hB.cell (p := ⟨b, o + (10) + i, none⟩) hlt).symm.trans ?_)
      exact HRS.out i x hx

set_option maxRecDepth 100000 in
set_option maxHeartbeats 4000000 in
theorem round23_c8_1 (xs ys2 : List UInt8) (hxl : xs.length = 8) (n2 : Nat) (hn1 : 1 ≤ n2) (hn8 : n2 ≤ 8) (hyl : ys2.length = n2) (X Y : Nat) (hD : DecF 8 xs X) (hE : DecF n2 ys2 Y) : Round23 ((20 :: xs) ++ (UInt8.ofNat (12 + n2) :: ys2)) (.c128 X Y) := by
  obtain ⟨i0, hi, hz0, hz1, hz2⟩ := info_parts info20
  intro K Q0 w wr a c j rest v vs ys s4 u hlc hc hl hk hr hB hO hx hV hnext
  obtain ⟨b, o, rfl, hlt, hcell⟩ : ∃ b o, a = some ⟨b, o, none⟩ ∧ b < w.heap.size ∧ ∀ (i : Nat) (x : UInt8), (((20 :: xs) ++ (UInt8.ofNat (12 + n2) :: ys2)) ++ rest)[i]? = some x → wr.cell? ⟨b, o + i, none⟩ = some (.int .u8 (x.toNat : Int)) := by
    rcases hr.2 with h | h
    · cases h
    · exact h
  have hc0 : wr.cell? ⟨b, o, none⟩ = some (.int .u8 20) := hcell 0 20 rfl
  have hxs : ∀ (i : Nat) (x : UInt8), xs[i]? = some x → wr.cell? ⟨b, o + 1 + i, none⟩ = some (.int .u8 (x.toNat : Int)) := fun i x hi => by
    have hil : i < xs.length := (List.getElem?_eq_some_iff.1 hi).1
    have := hcell (i + 1) x (by rw [List.append_assoc, List.cons_append, List.getElem?_cons_succ, List.getElem?_append_left hil]; exact hi)
    rwa [show o + (i + 1) = o + 1 + i by omega] at this
  have hc1 : wr.cell? ⟨b, o + 9, none⟩ = some (.int .u8 (12 + (n2 : Int))) := by
    have := hcell 9 (UInt8.ofNat (12 + n2)) (by rw [List.append_assoc, List.getElem?_append_right (by simp only [List.length_cons]; omega)]; simp only [List.length_cons, hxl]; rfl)
    rwa [show ((UInt8.ofNat (12 + n2)).toNat : Int) = 12 + (n2 : Int) by rw [UInt8.toNat_ofNat']; omega] at this
  obtain ⟨T, hT⟩ : ∃ T : Int, 12 + (n2 : Int) = T := ⟨_, rfl⟩
  rw [hT] at hc1
  have hT1 : (T < 12) = False := by rw [eq_iff_iff, iff_false]; omega
  have hT2 : (20 < T) = False := by rw [eq_iff_iff, iff_false]; omega
  have hT3 : 12 ≤ T := by omega
  have hT4 : T ≤ 20 := by omega
  have hTn : 1 + T - 12 = (n2 : Int) + 1 := by omega
  clear hT
  have hys : ∀ (i : Nat) (x : UInt8), ys2[i]? = some x → wr.cell? ⟨b, o + 9 + 1 + i, none⟩ = some (.int .u8 (x.toNat : Int)) := fun i x hi => by
    have hil : i < ys2.length := (List.getElem?_eq_some_iff.1 hi).1
    have := hcell (i + 10) x (by
      rw [List.append_assoc, List.getElem?_append_right (by simp only [List.length_cons]; omega)]
      simp only [List.length_cons, hxl]
      rw [show i + 10 - (8 + 1) = i + 1 by omega, List.cons_append, List.getElem?_cons_succ, List.getElem?_append_left hil]
      exact hi)
    rwa [show o + (i + 10) = o + 9 + 1 + i by omega] at this
  have hch : ((20 :: xs) ++ (UInt8.ofNat (12 + n2) :: ys2)).length = 10 + n2 := by simp only [List.length_append, List.length_cons]; omega
  have hrs : ∀ (i : Nat) (x : UInt8), rest[i]? = some x → wr.cell? ⟨b, o + (10 + n2) + i, none⟩ = some (.int .u8 (x.toNat : Int)) := fun i x hi => by
    have := hcell (i + (10 + n2)) x (by rw [List.getElem?_append_right (by omega), hch, Nat.add_sub_cancel]; exact hi)
    rwa [show o + (i + (10 + n2)) = o + (10 + n2) + i by omega] at this
  have hlen : (((20 :: xs) ++ (UInt8.ofNat (12 + n2) :: ys2)) ++ rest).length = rest.length + (10 + n2) := by rw [List.length_append, hch, Nat.add_comm]
  rw [hlen] at hlc hl
  rw [hlen]
  have HXS := Lib.hid hxs
  have HYS := Lib.hid hys
  have HRS := Lib.hid hrs
  have HN := Lib.hid hnext
  have HO := Lib.hid hO
  have HV := Lib.hid hV
  have HX := Lib.hid hx
  have HXL := Lib.hid hxl
  have HYL := Lib.hid hyl
  have HD := Lib.hid hD
  have HE := Lib.hid hE
  generalize hm : rest.length = m at *
  have HM := Lib.hid hm
  clear hr hcell hnext hlen hO hV hx hm hxs hys hrs hxl hyl hD hE hch
  conv => arg 2; whnf
  unfold frm23
  (repeat (first | go_values | go_skip | go_guarded | go_step | go_upon))
  refine (HD.out wr _ _ ⟨HXL.out, .inr ⟨b, o + 1, rfl, Nat.lt_of_lt_of_le hlt hB.size, HXS.out⟩⟩).mono ?_
  rintro e w2 ⟨rfl, rfl⟩
  dsimp only
  (repeat (first | go_values | go_skip | go_guarded | go_step | go_upon))
  refine (HE.out w2 _ _ ⟨HYL.out, .inr ⟨b, o + 9 + 1, rfl, Nat.lt_of_lt_of_le hlt hB.size, HYS.out⟩⟩).mono ?_
  rintro e w3 ⟨rfl, rfl⟩
  dsimp only
  (repeat (first | (at_builtin; refine wpList_append_own _ rfl (.tmp 153) (.tmp 161) 54 rfl w.heap.size 20 i0 _ 1 16 Tryd.underlying54 hi hz0 hz1 hz2 rfl (by decide) _ j vs rfl ?own ⟨w3.heap.size, 0, none⟩ 1 1 [_] rfl rfl (by exact fun j u hj => (cell_new w3 20 _ j).trans hj) ?c2 ?c3 ?c4 ?c5 ?_) | go_values | go_skip | go_guarded | go_step | go_upon))
  case own => exact HO.out.alloc _
  case c2 => intro u hu; simp at hu; subst hu; rfl
  case c3 => unfold maxLen; omega
  case c4 => omega
  case c5 => have := hB.size; show _ ≤ (w3.alloc _).heap.size; simp; omega
  intro v' w1 hown hgrow _
  have hV2 := areV_snoc HO.out HX.out HV.out (x := .c128 X Y) (u := .iface 80 (.complex .f64 X Y)) rfl hgrow
  have hB2 := (hB.alloc hB.size (.cells #[.iface 80 (.complex .f64 X Y)] 20)).grown hgrow (by have := hB.size; show _ ≤ (w3.alloc _).heap.size; simp; omega) (fun g hg => (HO.out.lt g hg).1)
  have HO2 := Lib.hid hown
  have HV2 := Lib.hid hV2
  have HB2 := Lib.hid hB2
  clear hown hgrow hV2 hB2
  (repeat (first | go_values | go_skip | go_guarded | go_step | go_upon))
  skip
  rw [show m + (10 + n2) - 9 - (n2 + 1) = m by omega]
  refine HN.out _ w1 _ (c - 9 - (n2 + 1)) v' _ ⟨rfl, rfl, rfl, rfl, rfl, rfl⟩ (by omega) (by omega) ?rd HB2.out HO2.out HV2.out
  case rd =>
    refine ⟨HM.out, ?_⟩
    rcases Nat.eq_zero_or_pos m with h | h
    · exact .inl (List.eq_nil_of_length_eq_zero (HM.out.trans h))
    · refine .inr ⟨b, o + (10 + n2), by rw [if_neg (by omega)]; first | done | exact congrArg some (congrArg (Addr.mk b · none) (by omega)), hlt, fun i x hx => ?_⟩
      refine (HB2.out.cell (p := ⟨b, o + (10 + n2) + i, none⟩) hlt).trans ((hB.cell (p := ⟨b, o + (10 + n2) + i, none⟩) hlt).symm.trans ?_)
      exact HRS.out i x hx

end Go.Proofs.YtaoonpncnahhgaaDoor
