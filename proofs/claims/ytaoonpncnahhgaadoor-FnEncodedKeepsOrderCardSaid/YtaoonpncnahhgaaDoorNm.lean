/-
  The rounds of DecodeScalars over numbers: tags 69, 70, 71, 72, 73, 74, 75, 76.
-/
import Derived.Test.YtaoonpncnahhgaaDoorD8
namespace Go.Proofs.YtaoonpncnahhgaaDoor
open Go.RowKit

theorem wrap_neg64 (N : Int) (h0 : -9223372036854775808 ≤ N) (h1 : N < 0) : IntKind.i64.wrap (N + 18446744073709551616) = N := by
  have e : (N + 18446744073709551616) % 2 ^ 64 = N + 18446744073709551616 := Int.emod_eq_of_lt (by omega) (by omega)
  simp only [IntKind.wrap, IntKind.bits, IntKind.signed, e]
  rw [if_pos]
  · omega
  · simp; omega

set_option maxRecDepth 100000 in
set_option maxHeartbeats 4000000 in
theorem round23_m8 (xs : List UInt8) (hxl : xs.length = 8) (N : Int) (hN0 : -9223372036854775808 ≤ N) (hN1 : N < 0) (hNv : ((valM xs : Nat) : Int) = N + 18446744073709551616) : Round23 (69 :: xs) (.i64 N) := by
  obtain ⟨i0, hi, hz0, hz1, hz2⟩ := info_parts info20
  intro K Q0 w wr a c j rest v vs ys s4 u hlc hc hl hk hr hB hO hx hV hnext
  obtain ⟨b, o, rfl, hlt, hcell⟩ : ∃ b o, a = some ⟨b, o, none⟩ ∧ b < w.heap.size ∧ ∀ (i : Nat) (x : UInt8), ((69 :: xs) ++ rest)[i]? = some x → wr.cell? ⟨b, o + i, none⟩ = some (.int .u8 (x.toNat : Int)) := by
    rcases hr.2 with h | h
    · cases h
    · exact h
  have hc0 : wr.cell? ⟨b, o, none⟩ = some (.int .u8 69) := hcell 0 69 rfl
  have hxs : ∀ (i : Nat) (x : UInt8), xs[i]? = some x → wr.cell? ⟨b, o + 1 + i, none⟩ = some (.int .u8 (x.toNat : Int)) := fun i x hi => by
    have hil : i < xs.length := (List.getElem?_eq_some_iff.1 hi).1
    have := hcell (i + 1) x (by rw [List.cons_append, List.getElem?_cons_succ, List.getElem?_append_left hil]; exact hi)
    rwa [show o + (i + 1) = o + 1 + i by omega] at this
  have hrs : ∀ (i : Nat) (x : UInt8), rest[i]? = some x → wr.cell? ⟨b, o + 9 + i, none⟩ = some (.int .u8 (x.toNat : Int)) := fun i x hi => by
    have := hcell (i + 9) x (by rw [List.getElem?_append_right (by simp; omega)]; simpa [hxl] using hi)
    rwa [show o + (i + 9) = o + 9 + i by omega] at this
  have hlen : ((69 :: xs) ++ rest).length = rest.length + 9 := by simp; omega
  rw [hlen] at hlc hl
  rw [hlen]
  have hcv : ∀ W : World, (convert 32 2 (.int .u64 ((valM xs : Nat) : Int))).run Tryd.prog W = .ok (.int .i64 N) W := fun W => by
    have h1 : IntKind.i64.wrap ((valM xs : Nat) : Int) = N := by rw [hNv]; exact wrap_neg64 N hN0 hN1
    rw [run_convert_int (P := Tryd.prog) W 32 2 .u64 _ (by rw [Tryd.underlying32]; rfl) (Tryd.underlying2), show Tryd.prog.intKind 2 = .i64 by kernel_rfl, h1]
  have HNV := Lib.hid hNv
  clear hNv
  have HXS := Lib.hid hxs
  have HRS := Lib.hid hrs
  have HN := Lib.hid hnext
  have HO := Lib.hid hO
  have HV := Lib.hid hV
  have HX := Lib.hid hx
  have HXL := Lib.hid hxl
  generalize hm : rest.length = m at *
  have HM := Lib.hid hm
  clear hr hcell hnext hlen hO hV hx hm hxs hrs hxl
  conv => arg 2; whnf
  unfold frm23
  (repeat (first | go_values | go_skip | go_guarded | go_step | go_upon))
  refine loopM _ wr b (o + 1) 8 _ xs HXL.out (by omega) HXS.out _ _ _ _ _ _ ⟨rfl, rfl, rfl, rfl, rfl, rfl, rfl, rfl, rfl, rfl, rfl⟩ ?_
  intro a2 hs
  obtain ⟨u2, rfl⟩ := hs.frm
  clear hs hc0
  unfold frmM
  (repeat (first | (at_builtin; refine wpList_append_own _ rfl (.tmp 437) (.tmp 441) 54 rfl w.heap.size 20 i0 _ 1 16 Tryd.underlying54 hi hz0 hz1 hz2 rfl (by decide) _ j vs rfl ?own ⟨wr.heap.size, 0, none⟩ 1 1 [_] rfl rfl (by exact fun j u hj => (cell_new wr 20 _ j).trans hj) ?c2 ?c3 ?c4 ?c5 ?_) | go_values | go_skip | go_guarded | go_step | go_upon))
  case own => exact HO.out.alloc _
  case c2 => intro u hu; simp at hu; subst hu; rfl
  case c3 => unfold maxLen; omega
  case c4 => omega
  case c5 => have := hB.size; show _ ≤ (wr.alloc _).heap.size; simp; omega
  intro v' w1 hown hgrow _
  have hV2 := areV_snoc HO.out HX.out HV.out (x := .i64 N) (u := .iface 2 (.int .i64 N)) rfl hgrow
  have hB2 := (hB.alloc hB.size (.cells #[.iface 2 (.int .i64 N)] 20)).grown hgrow (by have := hB.size; show _ ≤ (wr.alloc _).heap.size; simp; omega) (fun g hg => (HO.out.lt g hg).1)
  have HO2 := Lib.hid hown
  have HV2 := Lib.hid hV2
  have HB2 := Lib.hid hB2
  clear hown hgrow hV2 hB2
  (repeat (first | go_values | go_skip | go_guarded | go_step | go_upon))

  refine HN.out _ w1 _ (c - 9) v' _ ⟨rfl, rfl, rfl, rfl, rfl, rfl⟩ (by omega) (by omega) ?rd HB2.out HO2.out HV2.out
  case rd =>
    refine ⟨HM.out, ?_⟩
    rcases Nat.eq_zero_or_pos m with h | h
    · exact .inl (List.eq_nil_of_length_eq_zero (HM.out.trans h))
    · refine .inr ⟨b, o + 9, by rw [if_neg (by omega)], hlt, fun i x hx => ?_⟩
      refine (HB2.out.cell (p := ⟨b, o + 9 + i, none⟩) hlt).trans ((hB.cell (p := ⟨b, o + 9 + i, none⟩) hlt).symm.trans ?_)
      exact HRS.out i x hx

set_option maxRecDepth 100000 in
set_option maxHeartbeats 4000000 in
theorem round23_m7 (xs : List UInt8) (hxl : xs.length = 7) (N : Int) (hN0 : -9223372036854775808 ≤ N) (hN1 : N < 0) (hNv : ((valM xs : Nat) : Int) = N + 18446744073709551616) : Round23 (70 :: xs) (.i64 N) := by
  obtain ⟨i0, hi, hz0, hz1, hz2⟩ := info_parts info20
  intro K Q0 w wr a c j rest v vs ys s4 u hlc hc hl hk hr hB hO hx hV hnext
  obtain ⟨b, o, rfl, hlt, hcell⟩ : ∃ b o, a = some ⟨b, o, none⟩ ∧ b < w.heap.size ∧ ∀ (i : Nat) (x : UInt8), ((70 :: xs) ++ rest)[i]? = some x → wr.cell? ⟨b, o + i, none⟩ = some (.int .u8 (x.toNat : Int)) := by
    rcases hr.2 with h | h
    · cases h
    · exact h
  have hc0 : wr.cell? ⟨b, o, none⟩ = some (.int .u8 70) := hcell 0 70 rfl
  have hxs : ∀ (i : Nat) (x : UInt8), xs[i]? = some x → wr.cell? ⟨b, o + 1 + i, none⟩ = some (.int .u8 (x.toNat : Int)) := fun i x hi => by
    have hil : i < xs.length := (List.getElem?_eq_some_iff.1 hi).1
    have := hcell (i + 1) x (by rw [List.cons_append, List.getElem?_cons_succ, List.getElem?_append_left hil]; exact hi)
    rwa [show o + (i + 1) = o + 1 + i by omega] at this
  have hrs : ∀ (i : Nat) (x : UInt8), rest[i]? = some x → wr.cell? ⟨b, o + 8 + i, none⟩ = some (.int .u8 (x.toNat : Int)) := fun i x hi => by
    have := hcell (i + 8) x (by rw [List.getElem?_append_right (by simp; omega)]; simpa [hxl] using hi)
    rwa [show o + (i + 8) = o + 8 + i by omega] at this
  have hlen : ((70 :: xs) ++ rest).length = rest.length + 8 := by simp; omega
  rw [hlen] at hlc hl
  rw [hlen]
  have hcv : ∀ W : World, (convert 32 2 (.int .u64 ((valM xs : Nat) : Int))).run Tryd.prog W = .ok (.int .i64 N) W := fun W => by
    have h1 : IntKind.i64.wrap ((valM xs : Nat) : Int) = N := by rw [hNv]; exact wrap_neg64 N hN0 hN1
    rw [run_convert_int (P := Tryd.prog) W 32 2 .u64 _ (by rw [Tryd.underlying32]; rfl) (Tryd.underlying2), show Tryd.prog.intKind 2 = .i64 by kernel_rfl, h1]
  have HNV := Lib.hid hNv
  clear hNv
  have HXS := Lib.hid hxs
  have HRS := Lib.hid hrs
  have HN := Lib.hid hnext
  have HO := Lib.hid hO
  have HV := Lib.hid hV
  have HX := Lib.hid hx
  have HXL := Lib.hid hxl
  generalize hm : rest.length = m at *
  have HM := Lib.hid hm
  clear hr hcell hnext hlen hO hV hx hm hxs hrs hxl
  conv => arg 2; whnf
  unfold frm23
  (repeat (first | go_values | go_skip | go_guarded | go_step | go_upon))
  refine loopM _ wr b (o + 1) 7 _ xs HXL.out (by omega) HXS.out _ _ _ _ _ _ ⟨rfl, rfl, rfl, rfl, rfl, rfl, rfl, rfl, rfl, rfl, rfl⟩ ?_
  intro a2 hs
  obtain ⟨u2, rfl⟩ := hs.frm
  clear hs hc0
  unfold frmM
  (repeat (first | (at_builtin; refine wpList_append_own _ rfl (.tmp 437) (.tmp 441) 54 rfl w.heap.size 20 i0 _ 1 16 Tryd.underlying54 hi hz0 hz1 hz2 rfl (by decide) _ j vs rfl ?own ⟨wr.heap.size, 0, none⟩ 1 1 [_] rfl rfl (by exact fun j u hj => (cell_new wr 20 _ j).trans hj) ?c2 ?c3 ?c4 ?c5 ?_) | go_values | go_skip | go_guarded | go_step | go_upon))
  case own => exact HO.out.alloc _
  case c2 => intro u hu; simp at hu; subst hu; rfl
  case c3 => unfold maxLen; omega
  case c4 => omega
  case c5 => have := hB.size; show _ ≤ (wr.alloc _).heap.size; simp; omega
  intro v' w1 hown hgrow _
  have hV2 := areV_snoc HO.out HX.out HV.out (x := .i64 N) (u := .iface 2 (.int .i64 N)) rfl hgrow
  have hB2 := (hB.alloc hB.size (.cells #[.iface 2 (.int .i64 N)] 20)).grown hgrow (by have := hB.size; show _ ≤ (wr.alloc _).heap.size; simp; omega) (fun g hg => (HO.out.lt g hg).1)
  have HO2 := Lib.hid hown
  have HV2 := Lib.hid hV2
  have HB2 := Lib.hid hB2
  clear hown hgrow hV2 hB2
  (repeat (first | go_values | go_skip | go_guarded | go_step | go_upon))

  refine HN.out _ w1 _ (c - 8) v' _ ⟨rfl, rfl, rfl, rfl, rfl, rfl⟩ (by omega) (by omega) ?rd HB2.out HO2.out HV2.out
  case rd =>
    refine ⟨HM.out, ?_⟩
    rcases Nat.eq_zero_or_pos m with h | h
    · exact .inl (List.eq_nil_of_length_eq_zero (HM.out.trans h))
    · refine .inr ⟨b, o + 8, by rw [if_neg (by omega)], hlt, fun i x hx => ?_⟩
      refine (HB2.out.cell (p := ⟨b, o + 8 + i, none⟩) hlt).trans ((hB.cell (p := ⟨b, o + 8 + i, none⟩) hlt).symm.trans ?_)
      exact HRS.out i x hx

set_option maxRecDepth 100000 in
set_option maxHeartbeats 4000000 in
theorem round23_m6 (xs : List UInt8) (hxl : xs.length = 6) (N : Int) (hN0 : -9223372036854775808 ≤ N) (hN1 : N < 0) (hNv : ((valM xs : Nat) : Int) = N + 18446744073709551616) : Round23 (71 :: xs) (.i64 N) := by
  obtain ⟨i0, hi, hz0, hz1, hz2⟩ := info_parts info20
  intro K Q0 w wr a c j rest v vs ys s4 u hlc hc hl hk hr hB hO hx hV hnext
  obtain ⟨b, o, rfl, hlt, hcell⟩ : ∃ b o, a = some ⟨b, o, none⟩ ∧ b < w.heap.size ∧ ∀ (i : Nat) (x : UInt8), ((71 :: xs) ++ rest)[i]? = some x → wr.cell? ⟨b, o + i, none⟩ = some (.int .u8 (x.toNat : Int)) := by
    rcases hr.2 with h | h
    · cases h
    · exact h
  have hc0 : wr.cell? ⟨b, o, none⟩ = some (.int .u8 71) := hcell 0 71 rfl
  have hxs : ∀ (i : Nat) (x : UInt8), xs[i]? = some x → wr.cell? ⟨b, o + 1 + i, none⟩ = some (.int .u8 (x.toNat : Int)) := fun i x hi => by
    have hil : i < xs.length := (List.getElem?_eq_some_iff.1 hi).1
    have := hcell (i + 1) x (by rw [List.cons_append, List.getElem?_cons_succ, List.getElem?_append_left hil]; exact hi)
    rwa [show o + (i + 1) = o + 1 + i by omega] at this
  have hrs : ∀ (i : Nat) (x : UInt8), rest[i]? = some x → wr.cell? ⟨b, o + 7 + i, none⟩ = some (.int .u8 (x.toNat : Int)) := fun i x hi => by
    have := hcell (i + 7) x (by rw [List.getElem?_append_right (by simp; omega)]; simpa [hxl] using hi)
    rwa [show o + (i + 7) = o + 7 + i by omega] at this
  have hlen : ((71 :: xs) ++ rest).length = rest.length + 7 := by simp; omega
  rw [hlen] at hlc hl
  rw [hlen]
  have hcv : ∀ W : World, (convert 32 2 (.int .u64 ((valM xs : Nat) : Int))).run Tryd.prog W = .ok (.int .i64 N) W := fun W => by
    have h1 : IntKind.i64.wrap ((valM xs : Nat) : Int) = N := by rw [hNv]; exact wrap_neg64 N hN0 hN1
    rw [run_convert_int (P := Tryd.prog) W 32 2 .u64 _ (by rw [Tryd.underlying32]; rfl) (Tryd.underlying2), show Tryd.prog.intKind 2 = .i64 by kernel_rfl, h1]
  have HNV := Lib.hid hNv
  clear hNv
  have HXS := Lib.hid hxs
  have HRS := Lib.hid hrs
  have HN := Lib.hid hnext
  have HO := Lib.hid hO
  have HV := Lib.hid hV
  have HX := Lib.hid hx
  have HXL := Lib.hid hxl
  generalize hm : rest.length = m at *
  have HM := Lib.hid hm
  clear hr hcell hnext hlen hO hV hx hm hxs hrs hxl
  conv => arg 2; whnf
  unfold frm23
  (repeat (first | go_values | go_skip | go_guarded | go_step | go_upon))
  refine loopM _ wr b (o + 1) 6 _ xs HXL.out (by omega) HXS.out _ _ _ _ _ _ ⟨rfl, rfl, rfl, rfl, rfl, rfl, rfl, rfl, rfl, rfl, rfl⟩ ?_
  intro a2 hs
  obtain ⟨u2, rfl⟩ := hs.frm
  clear hs hc0
  unfold frmM
  (repeat (first | (at_builtin; refine wpList_append_own _ rfl (.tmp 437) (.tmp 441) 54 rfl w.heap.size 20 i0 _ 1 16 Tryd.underlying54 hi hz0 hz1 hz2 rfl (by decide) _ j vs rfl ?own ⟨wr.heap.size, 0, none⟩ 1 1 [_] rfl rfl (by exact fun j u hj => (cell_new wr 20 _ j).trans hj) ?c2 ?c3 ?c4 ?c5 ?_) | go_values | go_skip | go_guarded | go_step | go_upon))
  case own => exact HO.out.alloc _
  case c2 => intro u hu; simp at hu; subst hu; rfl
  case c3 => unfold maxLen; omega
  case c4 => omega
  case c5 => have := hB.size; show _ ≤ (wr.alloc _).heap.size; simp; omega
  intro v' w1 hown hgrow _
  have hV2 := areV_snoc HO.out HX.out HV.out (x := .i64 N) (u := .iface 2 (.int .i64 N)) rfl hgrow
  have hB2 := (hB.alloc hB.size (.cells #[.iface 2 (.int .i64 N)] 20)).grown hgrow (by have := hB.size; show _ ≤ (wr.alloc _).heap.size; simp; omega) (fun g hg => (HO.out.lt g hg).1)
  have HO2 := Lib.hid hown
  have HV2 := Lib.hid hV2
  have HB2 := Lib.hid hB2
  clear hown hgrow hV2 hB2
  (repeat (first | go_values | go_skip | go_guarded | go_step | go_upon))

  refine HN.out _ w1 _ (c - 7) v' _ ⟨rfl, rfl, rfl, rfl, rfl, rfl⟩ (by omega) (by omega) ?rd HB2.out HO2.out HV2.out
  case rd =>
    refine ⟨HM.out, ?_⟩
    rcases Nat.eq_zero_or_pos m with h | h
    · exact .inl (List.eq_nil_of_length_eq_zero (HM.out.trans h))
    · refine .inr ⟨b, o + 7, by rw [if_neg (by omega)], hlt, fun i x hx => ?_⟩
      refine (HB2.out.cell (p := ⟨b, o + 7 + i, none⟩) hlt).trans ((hB.cell (p := ⟨b, o + 7 + i, none⟩) hlt).symm.trans ?_)
      exact HRS.out i x hx

set_option maxRecDepth 100000 in
set_option maxHeartbeats 4000000 in
theorem round23_m5 (xs : List UInt8) (hxl : xs.length = 5) (N : Int) (hN0 : -9223372036854775808 ≤ N) (hN1 : N < 0) (hNv : ((valM xs : Nat) : Int) = N + 18446744073709551616) : Round23 (72 :: xs) (.i64 N) := by
  obtain ⟨i0, hi, hz0, hz1, hz2⟩ := info_parts info20
  intro K Q0 w wr a c j rest v vs ys s4 u hlc hc hl hk hr hB hO hx hV hnext
  obtain ⟨b, o, rfl, hlt, hcell⟩ : ∃ b o, a = some ⟨b, o, none⟩ ∧ b < w.heap.size ∧ ∀ (i : Nat) (x : UInt8), ((72 :: xs) ++ rest)[i]? = some x → wr.cell? ⟨b, o + i, none⟩ = some (.int .u8 (x.toNat : Int)) := by
    rcases hr.2 with h | h
    · cases h
    · exact h
  have hc0 : wr.cell? ⟨b, o, none⟩ = some (.int .u8 72) := hcell 0 72 rfl
  have hxs : ∀ (i : Nat) (x : UInt8), xs[i]? = some x → wr.cell? ⟨b, o + 1 + i, none⟩ = some (.int .u8 (x.toNat : Int)) := fun i x hi => by
    have hil : i < xs.length := (List.getElem?_eq_some_iff.1 hi).1
    have := hcell (i + 1) x (by rw [List.cons_append, List.getElem?_cons_succ, List.getElem?_append_left hil]; exact hi)
    rwa [show o + (i + 1) = o + 1 + i by omega] at this
  have hrs : ∀ (i : Nat) (x : UInt8), rest[i]? = some x → wr.cell? ⟨b, o + 6 + i, none⟩ = some (.int .u8 (x.toNat : Int)) := fun i x hi => by
    have := hcell (i + 6) x (by rw [List.getElem?_append_right (by simp; omega)]; simpa [hxl] using hi)
    rwa [show o + (i + 6) = o + 6 + i by omega] at this
  have hlen : ((72 :: xs) ++ rest).length = rest.length + 6 := by simp; omega
  rw [hlen] at hlc hl
  rw [hlen]
  have hcv : ∀ W : World, (convert 32 2 (.int .u64 ((valM xs : Nat) : Int))).run Tryd.prog W = .ok (.int .i64 N) W := fun W => by
    have h1 : IntKind.i64.wrap ((valM xs : Nat) : Int) = N := by rw [hNv]; exact wrap_neg64 N hN0 hN1
    rw [run_convert_int (P := Tryd.prog) W 32 2 .u64 _ (by rw [Tryd.underlying32]; rfl) (Tryd.underlying2), show Tryd.prog.intKind 2 = .i64 by kernel_rfl, h1]
  have HNV := Lib.hid hNv
  clear hNv
  have HXS := Lib.hid hxs
  have HRS := Lib.hid hrs
  have HN := Lib.hid hnext
  have HO := Lib.hid hO
  have HV := Lib.hid hV
  have HX := Lib.hid hx
  have HXL := Lib.hid hxl
  generalize hm : rest.length = m at *
  have HM := Lib.hid hm
  clear hr hcell hnext hlen hO hV hx hm hxs hrs hxl
  conv => arg 2; whnf
  unfold frm23
  (repeat (first | go_values | go_skip | go_guarded | go_step | go_upon))
  refine loopM _ wr b (o + 1) 5 _ xs HXL.out (by omega) HXS.out _ _ _ _ _ _ ⟨rfl, rfl, rfl, rfl, rfl, rfl, rfl, rfl, rfl, rfl, rfl⟩ ?_
  intro a2 hs
  obtain ⟨u2, rfl⟩ := hs.frm
  clear hs hc0
  unfold frmM
  (repeat (first | (at_builtin; refine wpList_append_own _ rfl (.tmp 437) (.tmp 441) 54 rfl w.heap.size 20 i0 _ 1 16 Tryd.underlying54 hi hz0 hz1 hz2 rfl (by decide) _ j vs rfl ?own ⟨wr.heap.size, 0, none⟩ 1 1 [_] rfl rfl (by exact fun j u hj => (cell_new wr 20 _ j).trans hj) ?c2 ?c3 ?c4 ?c5 ?_) | go_values | go_skip | go_guarded | go_step | go_upon))
  case own => exact HO.out.alloc _
  case c2 => intro u hu; simp at hu; subst hu; rfl
  case c3 => unfold maxLen; omega
  case c4 => omega
  case c5 => have := hB.size; show _ ≤ (wr.alloc _).heap.size; simp; omega
  intro v' w1 hown hgrow _
  have hV2 := areV_snoc HO.out HX.out HV.out (x := .i64 N) (u := .iface 2 (.int .i64 N)) rfl hgrow
  have hB2 := (hB.alloc hB.size (.cells #[.iface 2 (.int .i64 N)] 20)).grown hgrow (by have := hB.size; show _ ≤ (wr.alloc _).heap.size; simp; omega) (fun g hg => (HO.out.lt g hg).1)
  have HO2 := Lib.hid hown
  have HV2 := Lib.hid hV2
  have HB2 := Lib.hid hB2
  clear hown hgrow hV2 hB2
  (repeat (first | go_values | go_skip | go_guarded | go_step | go_upon))

  refine HN.out _ w1 _ (c - 6) v' _ ⟨rfl, rfl, rfl, rfl, rfl, rfl⟩ (by omega) (by omega) ?rd HB2.out HO2.out HV2.out
  case rd =>
    refine ⟨HM.out, ?_⟩
    rcases Nat.eq_zero_or_pos m with h | h
    · exact .inl (List.eq_nil_of_length_eq_zero (HM.out.trans h))
    · refine .inr ⟨b, o + 6, by rw [if_neg (by omega)], hlt, fun i x hx => ?_⟩
      refine (HB2.out.cell (p := ⟨b, o + 6 + i, none⟩) hlt).trans ((hB.cell (p := ⟨b, o + 6 + i, none⟩) hlt).symm.trans ?_)
      exact HRS.out i x hx

set_option maxRecDepth 100000 in
set_option maxHeartbeats 4000000 in
theorem round23_m4 (xs : List UInt8) (hxl : xs.length = 4) (N : Int) (hN0 : -9223372036854775808 ≤ N) (hN1 : N < 0) (hNv : ((valM xs : Nat) : Int) = N + 18446744073709551616) : Round23 (73 :: xs) (.i64 N) := by
  obtain ⟨i0, hi, hz0, hz1, hz2⟩ := info_parts info20
  intro K Q0 w wr a c j rest v vs ys s4 u hlc hc hl hk hr hB hO hx hV hnext
  obtain ⟨b, o, rfl, hlt, hcell⟩ : ∃ b o, a = some ⟨b, o, none⟩ ∧ b < w.heap.size ∧ ∀ (i : Nat) (x : UInt8), ((73 :: xs) ++ rest)[i]? = some x → wr.cell? ⟨b, o + i, none⟩ = some (.int .u8 (x.toNat : Int)) := by
    rcases hr.2 with h | h
    · cases h
    · exact h
  have hc0 : wr.cell? ⟨b, o, none⟩ = some (.int .u8 73) := hcell 0 73 rfl
  have hxs : ∀ (i : Nat) (x : UInt8), xs[i]? = some x → wr.cell? ⟨b, o + 1 + i, none⟩ = some (.int .u8 (x.toNat : Int)) := fun i x hi => by
    have hil : i < xs.length := (List.getElem?_eq_some_iff.1 hi).1
    have := hcell (i + 1) x (by rw [List.cons_append, List.getElem?_cons_succ, List.getElem?_append_left hil]; exact hi)
    rwa [show o + (i + 1) = o + 1 + i by omega] at this
  have hrs : ∀ (i : Nat) (x : UInt8), rest[i]? = some x → wr.cell? ⟨b, o + 5 + i, none⟩ = some (.int .u8 (x.toNat : Int)) := fun i x hi => by
    have := hcell (i + 5) x (by rw [List.getElem?_append_right (by simp; omega)]; simpa [hxl] using hi)
    rwa [show o + (i + 5) = o + 5 + i by omega] at this
  have hlen : ((73 :: xs) ++ rest).length = rest.length + 5 := by simp; omega
  rw [hlen] at hlc hl
  rw [hlen]
  have hcv : ∀ W : World, (convert 32 2 (.int .u64 ((valM xs : Nat) : Int))).run Tryd.prog W = .ok (.int .i64 N) W := fun W => by
    have h1 : IntKind.i64.wrap ((valM xs : Nat) : Int) = N := by rw [hNv]; exact wrap_neg64 N hN0 hN1
    rw [run_convert_int (P := Tryd.prog) W 32 2 .u64 _ (by rw [Tryd.underlying32]; rfl) (Tryd.underlying2), show Tryd.prog.intKind 2 = .i64 by kernel_rfl, h1]
  have HNV := Lib.hid hNv
  clear hNv
  have HXS := Lib.hid hxs
  have HRS := Lib.hid hrs
  have HN := Lib.hid hnext
  have HO := Lib.hid hO
  have HV := Lib.hid hV
  have HX := Lib.hid hx
  have HXL := Lib.hid hxl
  generalize hm : rest.length = m at *
  have HM := Lib.hid hm
  clear hr hcell hnext hlen hO hV hx hm hxs hrs hxl
  conv => arg 2; whnf
  unfold frm23
  (repeat (first | go_values | go_skip | go_guarded | go_step | go_upon))
  refine loopM _ wr b (o + 1) 4 _ xs HXL.out (by omega) HXS.out _ _ _ _ _ _ ⟨rfl, rfl, rfl, rfl, rfl, rfl, rfl, rfl, rfl, rfl, rfl⟩ ?_
  intro a2 hs
  obtain ⟨u2, rfl⟩ := hs.frm
  clear hs hc0
  unfold frmM
  (repeat (first | (at_builtin; refine wpList_append_own _ rfl (.tmp 437) (.tmp 441) 54 rfl w.heap.size 20 i0 _ 1 16 Tryd.underlying54 hi hz0 hz1 hz2 rfl (by decide) _ j vs rfl ?own ⟨wr.heap.size, 0, none⟩ 1 1 [_] rfl rfl (by exact fun j u hj => (cell_new wr 20 _ j).trans hj) ?c2 ?c3 ?c4 ?c5 ?_) | go_values | go_skip | go_guarded | go_step | go_upon))
  case own => exact HO.out.alloc _
  case c2 => intro u hu; simp at hu; subst hu; rfl
  case c3 => unfold maxLen; omega
  case c4 => omega
  case c5 => have := hB.size; show _ ≤ (wr.alloc _).heap.size; simp; omega
  intro v' w1 hown hgrow _
  have hV2 := areV_snoc HO.out HX.out HV.out (x := .i64 N) (u := .iface 2 (.int .i64 N)) rfl hgrow
  have hB2 := (hB.alloc hB.size (.cells #[.iface 2 (.int .i64 N)] 20)).grown hgrow (by have := hB.size; show _ ≤ (wr.alloc _).heap.size; simp; omega) (fun g hg => (HO.out.lt g hg).1)
  have HO2 := Lib.hid hown
  have HV2 := Lib.hid hV2
  have HB2 := Lib.hid hB2
  clear hown hgrow hV2 hB2
  (repeat (first | go_values | go_skip | go_guarded | go_step | go_upon))

  refine HN.out _ w1 _ (c - 5) v' _ ⟨rfl, rfl, rfl, rfl, rfl, rfl⟩ (by omega) (by omega) ?rd HB2.out HO2.out HV2.out
  case rd =>
    refine ⟨HM.out, ?_⟩
    rcases Nat.eq_zero_or_pos m with h | h
    · exact .inl (List.eq_nil_of_length_eq_zero (HM.out.trans h))
    · refine .inr ⟨b, o + 5, by rw [if_neg (by omega)], hlt, fun i x hx => ?_⟩
      refine (HB2.out.cell (p := ⟨b, o + 5 + i, none⟩) hlt).trans ((hB.cell (p := ⟨b, o + 5 + i, none⟩) hlt).symm.trans ?_)
      exact HRS.out i x hx

set_option maxRecDepth 100000 in
set_option maxHeartbeats 4000000 in
theorem round23_m3 (xs : List UInt8) (hxl : xs.length = 3) (N : Int) (hN0 : -9223372036854775808 ≤ N) (hN1 : N < 0) (hNv : ((valM xs : Nat) : Int) = N + 18446744073709551616) : Round23 (74 :: xs) (.i64 N) := by
  obtain ⟨i0, hi, hz0, hz1, hz2⟩ := info_parts info20
  intro K Q0 w wr a c j rest v vs ys s4 u hlc hc hl hk hr hB hO hx hV hnext
  obtain ⟨b, o, rfl, hlt, hcell⟩ : ∃ b o, a = some ⟨b, o, none⟩ ∧ b < w.heap.size ∧ ∀ (i : Nat) (x : UInt8), ((74 :: xs) ++ rest)[i]? = some x → wr.cell? ⟨b, o + i, none⟩ = some (.int .u8 (x.toNat : Int)) := by
    rcases hr.2 with h | h
    · cases h
    · exact h
  have hc0 : wr.cell? ⟨b, o, none⟩ = some (.int .u8 74) := hcell 0 74 rfl
  have hxs : ∀ (i : Nat) (x : UInt8), xs[i]? = some x → wr.cell? ⟨b, o + 1 + i, none⟩ = some (.int .u8 (x.toNat : Int)) := fun i x hi => by
    have hil : i < xs.length := (List.getElem?_eq_some_iff.1 hi).1
    have := hcell (i + 1) x (by rw [List.cons_append, List.getElem?_cons_succ, List.getElem?_append_left hil]; exact hi)
    rwa [show o + (i + 1) = o + 1 + i by omega] at this
  have hrs : ∀ (i : Nat) (x : UInt8), rest[i]? = some x → wr.cell? ⟨b, o + 4 + i, none⟩ = some (.int .u8 (x.toNat : Int)) := fun i x hi => by
    have := hcell (i + 4) x (by rw [List.getElem?_append_right (by simp; omega)]; simpa [hxl] using hi)
    rwa [show o + (i + 4) = o + 4 + i by omega] at this
  have hlen : ((74 :: xs) ++ rest).length = rest.length + 4 := by simp; omega
  rw [hlen] at hlc hl
  rw [hlen]
  have hcv : ∀ W : World, (convert 32 2 (.int .u64 ((valM xs : Nat) : Int))).run Tryd.prog W = .ok (.int .i64 N) W := fun W => by
    have h1 : IntKind.i64.wrap ((valM xs : Nat) : Int) = N := by rw [hNv]; exact wrap_neg64 N hN0 hN1
    rw [run_convert_int (P := Tryd.prog) W 32 2 .u64 _ (by rw [Tryd.underlying32]; rfl) (Tryd.underlying2), show Tryd.prog.intKind 2 = .i64 by kernel_rfl, h1]
  have HNV := Lib.hid hNv
  clear hNv
  have HXS := Lib.hid hxs
  have HRS := Lib.hid hrs
  have HN := Lib.hid hnext
  have HO := Lib.hid hO
  have HV := Lib.hid hV
  have HX := Lib.hid hx
  have HXL := Lib.hid hxl
  generalize hm : rest.length = m at *
  have HM := Lib.hid hm
  clear hr hcell hnext hlen hO hV hx hm hxs hrs hxl
  conv => arg 2; whnf
  unfold frm23
  (repeat (first | go_values | go_skip | go_guarded | go_step | go_upon))
  refine loopM _ wr b (o + 1) 3 _ xs HXL.out (by omega) HXS.out _ _ _ _ _ _ ⟨rfl, rfl, rfl, rfl, rfl, rfl, rfl, rfl, rfl, rfl, rfl⟩ ?_
  intro a2 hs
  obtain ⟨u2, rfl⟩ := hs.frm
  clear hs hc0
  unfold frmM
  (repeat (first | (at_builtin; refine wpList_append_own _ rfl (.tmp 437) (.tmp 441) 54 rfl w.heap.size 20 i0 _ 1 16 Tryd.underlying54 hi hz0 hz1 hz2 rfl (by decide) _ j vs rfl ?own ⟨wr.heap.size, 0, none⟩ 1 1 [_] rfl rfl (by exact fun j u hj => (cell_new wr 20 _ j).trans hj) ?c2 ?c3 ?c4 ?c5 ?_) | go_values | go_skip | go_guarded | go_step | go_upon))
  case own => exact HO.out.alloc _
  case c2 => intro u hu; simp at hu; subst hu; rfl
  case c3 => unfold maxLen; omega
  case c4 => omega
  case c5 => have := hB.size; show _ ≤ (wr.alloc _).heap.size; simp; omega
  intro v' w1 hown hgrow _
  have hV2 := areV_snoc HO.out HX.out HV.out (x := .i64 N) (u := .iface 2 (.int .i64 N)) rfl hgrow
  have hB2 := (hB.alloc hB.size (.cells #[.iface 2 (.int .i64 N)] 20)).grown hgrow (by have := hB.size; show _ ≤ (wr.alloc _).heap.size; simp; omega) (fun g hg => (HO.out.lt g hg).1)
  have HO2 := Lib.hid hown
  have HV2 := Lib.hid hV2
  have HB2 := Lib.hid hB2
  clear hown hgrow hV2 hB2
  (repeat (first | go_values | go_skip | go_guarded | go_step | go_upon))

  refine HN.out _ w1 _ (c - 4) v' _ ⟨rfl, rfl, rfl, rfl, rfl, rfl⟩ (by omega) (by omega) ?rd HB2.out HO2.out HV2.out
  case rd =>
    refine ⟨HM.out, ?_⟩
    rcases Nat.eq_zero_or_pos m with h | h
    · exact .inl (List.eq_nil_of_length_eq_zero (HM.out.trans h))
    · refine .inr ⟨b, o + 4, by rw [if_neg (by omega)], hlt, fun i x hx => ?_⟩
      refine (HB2.out.cell (p := ⟨b, o + 4 + i, none⟩) hlt).trans ((hB.cell (p := ⟨b, o + 4 + i, none⟩) hlt).symm.trans ?_)
      exact HRS.out i x hx

set_option maxRecDepth 100000 in
set_option maxHeartbeats 4000000 in
theorem round23_m2 (xs : List UInt8) (hxl : xs.length = 2) (N : Int) (hN0 : -9223372036854775808 ≤ N) (hN1 : N < 0) (hNv : ((valM xs : Nat) : Int) = N + 18446744073709551616) : Round23 (75 :: xs) (.i64 N) := by
  obtain ⟨i0, hi, hz0, hz1, hz2⟩ := info_parts info20
  intro K Q0 w wr a c j rest v vs ys s4 u hlc hc hl hk hr hB hO hx hV hnext
  obtain ⟨b, o, rfl, hlt, hcell⟩ : ∃ b o, a = some ⟨b, o, none⟩ ∧ b < w.heap.size ∧ ∀ (i : Nat) (x : UInt8), ((75 :: xs) ++ rest)[i]? = some x → wr.cell? ⟨b, o + i, none⟩ = some (.int .u8 (x.toNat : Int)) := by
    rcases hr.2 with h | h
    · cases h
    · exact h
  have hc0 : wr.cell? ⟨b, o, none⟩ = some (.int .u8 75) := hcell 0 75 rfl
  have hxs : ∀ (i : Nat) (x : UInt8), xs[i]? = some x → wr.cell? ⟨b, o + 1 + i, none⟩ = some (.int .u8 (x.toNat : Int)) := fun i x hi => by
    have hil : i < xs.length := (List.getElem?_eq_some_iff.1 hi).1
    have := hcell (i + 1) x (by rw [List.cons_append, List.getElem?_cons_succ, List.getElem?_append_left hil]; exact hi)
    rwa [show o + (i + 1) = o + 1 + i by omega] at this
  have hrs : ∀ (i : Nat) (x : UInt8), rest[i]? = some x → wr.cell? ⟨b, o + 3 + i, none⟩ = some (.int .u8 (x.toNat : Int)) := fun i x hi => by
    have := hcell (i + 3) x (by rw [List.getElem?_append_right (by simp; omega)]; simpa [hxl] using hi)
    rwa [show o + (i + 3) = o + 3 + i by omega] at this
  have hlen : ((75 :: xs) ++ rest).length = rest.length + 3 := by simp; omega
  rw [hlen] at hlc hl
  rw [hlen]
  have hcv : ∀ W : World, (convert 32 2 (.int .u64 ((valM xs : Nat) : Int))).run Tryd.prog W = .ok (.int .i64 N) W := fun W => by
    have h1 : IntKind.i64.wrap ((valM xs : Nat) : Int) = N := by rw [hNv]; exact wrap_neg64 N hN0 hN1
    rw [run_convert_int (P := Tryd.prog) W 32 2 .u64 _ (by rw [Tryd.underlying32]; rfl) (Tryd.underlying2), show Tryd.prog.intKind 2 = .i64 by kernel_rfl, h1]
  have HNV := Lib.hid hNv
  clear hNv
  have HXS := Lib.hid hxs
  have HRS := Lib.hid hrs
  have HN := Lib.hid hnext
  have HO := Lib.hid hO
  have HV := Lib.hid hV
  have HX := Lib.hid hx
  have HXL := Lib.hid hxl
  generalize hm : rest.length = m at *
  have HM := Lib.hid hm
  clear hr hcell hnext hlen hO hV hx hm hxs hrs hxl
  conv => arg 2; whnf
  unfold frm23
  (repeat (first | go_values | go_skip | go_guarded | go_step | go_upon))
  refine loopM _ wr b (o + 1) 2 _ xs HXL.out (by omega) HXS.out _ _ _ _ _ _ ⟨rfl, rfl, rfl, rfl, rfl, rfl, rfl, rfl, rfl, rfl, rfl⟩ ?_
  intro a2 hs
  obtain ⟨u2, rfl⟩ := hs.frm
  clear hs hc0
  unfold frmM
  (repeat (first | (at_builtin; refine wpList_append_own _ rfl (.tmp 437) (.tmp 441) 54 rfl w.heap.size 20 i0 _ 1 16 Tryd.underlying54 hi hz0 hz1 hz2 rfl (by decide) _ j vs rfl ?own ⟨wr.heap.size, 0, none⟩ 1 1 [_] rfl rfl (by exact fun j u hj => (cell_new wr 20 _ j).trans hj) ?c2 ?c3 ?c4 ?c5 ?_) | go_values | go_skip | go_guarded | go_step | go_upon))
  case own => exact HO.out.alloc _
  case c2 => intro u hu; simp at hu; subst hu; rfl
  case c3 => unfold maxLen; omega
  case c4 => omega
  case c5 => have := hB.size; show _ ≤ (wr.alloc _).heap.size; simp; omega
  intro v' w1 hown hgrow _
  have hV2 := areV_snoc HO.out HX.out HV.out (x := .i64 N) (u := .iface 2 (.int .i64 N)) rfl hgrow
  have hB2 := (hB.alloc hB.size (.cells #[.iface 2 (.int .i64 N)] 20)).grown hgrow (by have := hB.size; show _ ≤ (wr.alloc _).heap.size; simp; omega) (fun g hg => (HO.out.lt g hg).1)
  have HO2 := Lib.hid hown
  have HV2 := Lib.hid hV2
  have HB2 := Lib.hid hB2
  clear hown hgrow hV2 hB2
  (repeat (first | go_values | go_skip | go_guarded | go_step | go_upon))

  refine HN.out _ w1 _ (c - 3) v' _ ⟨rfl, rfl, rfl, rfl, rfl, rfl⟩ (by omega) (by omega) ?rd HB2.out HO2.out HV2.out
  case rd =>
    refine ⟨HM.out, ?_⟩
    rcases Nat.eq_zero_or_pos m with h | h
    · exact .inl (List.eq_nil_of_length_eq_zero (HM.out.trans h))
    · refine .inr ⟨b, o + 3, by rw [if_neg (by omega)], hlt, fun i x hx => ?_⟩
      refine (HB2.out.cell (p := ⟨b, o + 3 + i, none⟩) hlt).trans ((hB.cell (p := ⟨b, o + 3 + i, none⟩) hlt).symm.trans ?_)
      exact HRS.out i x hx

set_option maxRecDepth 100000 in
set_option maxHeartbeats 4000000 in
theorem round23_m1 (xs : List UInt8) (hxl : xs.length = 1) (N : Int) (hN0 : -9223372036854775808 ≤ N) (hN1 : N < 0) (hNv : ((valM xs : Nat) : Int) = N + 18446744073709551616) : Round23 (76 :: xs) (.i64 N) := by
  obtain ⟨i0, hi, hz0, hz1, hz2⟩ := info_parts info20
  intro K Q0 w wr a c j rest v vs ys s4 u hlc hc hl hk hr hB hO hx hV hnext
  obtain ⟨b, o, rfl, hlt, hcell⟩ : ∃ b o, a = some ⟨b, o, none⟩ ∧ b < w.heap.size ∧ ∀ (i : Nat) (x : UInt8), ((76 :: xs) ++ rest)[i]? = some x → wr.cell? ⟨b, o + i, none⟩ = some (.int .u8 (x.toNat : Int)) := by
    rcases hr.2 with h | h
    · cases h
    · exact h
  have hc0 : wr.cell? ⟨b, o, none⟩ = some (.int .u8 76) := hcell 0 76 rfl
  have hxs : ∀ (i : Nat) (x : UInt8), xs[i]? = some x → wr.cell? ⟨b, o + 1 + i, none⟩ = some (.int .u8 (x.toNat : Int)) := fun i x hi => by
    have hil : i < xs.length := (List.getElem?_eq_some_iff.1 hi).1
    have := hcell (i + 1) x (by rw [List.cons_append, List.getElem?_cons_succ, List.getElem?_append_left hil]; exact hi)
    rwa [show o + (i + 1) = o + 1 + i by omega] at this
  have hrs : ∀ (i : Nat) (x : UInt8), rest[i]? = some x → wr.cell? ⟨b, o + 2 + i, none⟩ = some (.int .u8 (x.toNat : Int)) := fun i x hi => by
    have := hcell (i + 2) x (by rw [List.getElem?_append_right (by simp; omega)]; simpa [hxl] using hi)
    rwa [show o + (i + 2) = o + 2 + i by omega] at this
  have hlen : ((76 :: xs) ++ rest).length = rest.length + 2 := by simp; omega
  rw [hlen] at hlc hl
  rw [hlen]
  have hcv : ∀ W : World, (convert 32 2 (.int .u64 ((valM xs : Nat) : Int))).run Tryd.prog W = .ok (.int .i64 N) W := fun W => by
    have h1 : IntKind.i64.wrap ((valM xs : Nat) : Int) = N := by rw [hNv]; exact wrap_neg64 N hN0 hN1
    rw [run_convert_int (P := Tryd.prog) W 32 2 .u64 _ (by rw [Tryd.underlying32]; rfl) (Tryd.underlying2), show Tryd.prog.intKind 2 = .i64 by kernel_rfl, h1]
  have HNV := Lib.hid hNv
  clear hNv
  have HXS := Lib.hid hxs
  have HRS := Lib.hid hrs
  have HN := Lib.hid hnext
  have HO := Lib.hid hO
  have HV := Lib.hid hV
  have HX := Lib.hid hx
  have HXL := Lib.hid hxl
  generalize hm : rest.length = m at *
  have HM := Lib.hid hm
  clear hr hcell hnext hlen hO hV hx hm hxs hrs hxl
  conv => arg 2; whnf
  unfold frm23
  (repeat (first | go_values | go_skip | go_guarded | go_step | go_upon))
  refine loopM _ wr b (o + 1) 1 _ xs HXL.out (by omega) HXS.out _ _ _ _ _ _ ⟨rfl, rfl, rfl, rfl, rfl, rfl, rfl, rfl, rfl, rfl, rfl⟩ ?_
  intro a2 hs
  obtain ⟨u2, rfl⟩ := hs.frm
  clear hs hc0
  unfold frmM
  (repeat (first | (at_builtin; refine wpList_append_own _ rfl (.tmp 437) (.tmp 441) 54 rfl w.heap.size 20 i0 _ 1 16 Tryd.underlying54 hi hz0 hz1 hz2 rfl (by decide) _ j vs rfl ?own ⟨wr.heap.size, 0, none⟩ 1 1 [_] rfl rfl (by exact fun j u hj => (cell_new wr 20 _ j).trans hj) ?c2 ?c3 ?c4 ?c5 ?_) | go_values | go_skip | go_guarded | go_step | go_upon))
  case own => exact HO.out.alloc _
  case c2 => intro u hu; simp at hu; subst hu; rfl
  case c3 => unfold maxLen; omega
  case c4 => omega
  case c5 => have := hB.size; show _ ≤ (wr.alloc _).heap.size; simp; omega
  intro v' w1 hown hgrow _
  have hV2 := areV_snoc HO.out HX.out HV.out (x := .i64 N) (u := .iface 2 (.int .i64 N)) rfl hgrow
  have hB2 := (hB.alloc hB.size (.cells #[.iface 2 (.int .i64 N)] 20)).grown hgrow (by have := hB.size; show _ ≤ (wr.alloc _).heap.size; simp; omega) (fun g hg => (HO.out.lt g hg).1)
  have HO2 := Lib.hid hown
  have HV2 := Lib.hid hV2
  have HB2 := Lib.hid hB2
  clear hown hgrow hV2 hB2
  (repeat (first | go_values | go_skip | go_guarded | go_step | go_upon))

  refine HN.out _ w1 _ (c - 2) v' _ ⟨rfl, rfl, rfl, rfl, rfl, rfl⟩ (by omega) (by omega) ?rd HB2.out HO2.out HV2.out
  case rd =>
    refine ⟨HM.out, ?_⟩
    rcases Nat.eq_zero_or_pos m with h | h
    · exact .inl (List.eq_nil_of_length_eq_zero (HM.out.trans h))
    · refine .inr ⟨b, o + 2, by rw [if_neg (by omega)], hlt, fun i x hx => ?_⟩
      refine (HB2.out.cell (p := ⟨b, o + 2 + i, none⟩) hlt).trans ((hB.cell (p := ⟨b, o + 2 + i, none⟩) hlt).symm.trans ?_)
      exact HRS.out i x hx

end Go.Proofs.YtaoonpncnahhgaaDoor
