/-
  bytes.Clone.
-/
import Derived.Test.YtaoonpncnahhgaaDoorE4
import Derived.Lib.SliceRun
namespace Go.Proofs.YtaoonpncnahhgaaDoor
open Go.RowKit

@[go_sem] theorem eql27_nil (a : Option Addr) (n c n' c' : Nat) (w : World) : (binOp .eql 27 (.slice a n c) (.slice none n' c')).run Tryd.prog w = .ok (.bool a.isNone) w := Lib.run_eql_slice_nil w _ _ a n c n' c' Tryd.underlying27

theorem add_eq (b off j : Nat) : (⟨b, off, none⟩ : Addr).add j = ⟨b, off + j, none⟩ := by
  unfold Addr.add
  split
  · rename_i h; subst h; rfl
  · rfl

/-- the cells of bytes that lie -/
theorem rdB.cells {B : Nat} {w W : World} {p : Addr} {n : Nat} {bs : List UInt8} (h : rdB B w (some p) n bs) (hb : Below B w W) : ∀ (j : Nat) (u : Value), (u8s bs)[j]? = some u → W.cell? (p.add j) = some u := by
  intro j u hj
  unfold u8s at hj
  rw [List.getElem?_map] at hj
  cases hx : bs[j]? with
  | none => rw [hx] at hj; cases hj
  | some x =>
    rw [hx] at hj
    simp only [Option.map_some, Option.some.injEq] at hj
    subst hj
    rcases h.2 with h0 | ⟨b, off, e, hlt, hc⟩
    · subst h0; simp at hx
    · cases e
      rw [add_eq]
      exact (hb.cell (p := ⟨b, off + j, none⟩) hlt).trans (hc j x hx)
theorem u8s_one {bs : List UInt8} : ∀ u ∈ u8s bs, u.oneCell' = true := by
  intro u hu
  obtain ⟨x, -, rfl⟩ := List.mem_map.1 hu
  rfl

set_option maxHeartbeats 1000000 in
theorem clone_any (a : Option Addr) (c : Nat) (bs : List UInt8) (w : World) (hl : bs.length ≤ 100000000) (h : rdB w.heap.size w a bs.length bs) :
    Calls Tryd.prog 24 #[.slice a bs.length c] w fun e w' => ∃ a' c', e = .returned (.slice a' bs.length c') ∧ bs.length ≤ c' ∧ c' ≤ 9223372036854775807 ∧ rdB5 w'.heap.size w' a' bs.length bs ∧ Below w.heap.size w w' := by
  obtain ⟨i0, hi, hz0, hz1, hz2⟩ := info_parts info5
  have H := Lib.hid h
  clear h
  cases a with
  | none =>
    have hn : bs = [] := by
      rcases H.out.2 with h | ⟨b, o, e, -⟩
      · exact h
      · cases e
    subst hn
    go_enter Tryd.func24, Tryd.ntmps24
    (repeat (first | go_values | go_skip | go_guarded | go_step | go_upon))
    go_ret
    exact ⟨none, 0, rfl, by simp, by omega, ⟨H.out, .inl rfl⟩, Below.refl _ _⟩
  | some p =>
    go_enter Tryd.func24, Tryd.ntmps24
    (repeat (first | (at_builtin; refine wpList_append_own _ rfl (.tmp 5) (.tmp 6) 27 rfl w.heap.size 5 i0 _ 1 1 Tryd.underlying27 hi hz0 hz1 hz2 rfl (by decide) _ 0 [] rfl ?own p bs.length c (u8s bs) rfl ?c0 ?c1 ?c2 ?c3 ?c4 ?c5 ?_) | go_values | go_skip | go_guarded | go_step | go_upon))
    case own => exact World.ownsRow_made w #[] 0 (Nat.le_refl _) (by decide) rfl
    case c0 => simp
    case c1 => exact H.out.cells (below1 _ _)
    case c2 => exact u8s_one
    case c3 => unfold maxLen; omega
    case c4 => omega
    case c5 => simp
    intro v' w1 hown hgrow _
    rw [Nat.zero_add, List.nil_append] at hown
    have hb : Below w.heap.size w w1 := (below1 w _).grown hgrow (by simp) (fun g hg => by cases hg; exact Nat.le_refl _)
    obtain ⟨va, vc, rfl, h1, h2, h3⟩ := owns_rdB rfl hown
    have HB := Lib.hid hb
    have H3 := Lib.hid h3
    clear hown hgrow hb h3
    (repeat (first | go_values | go_skip | go_guarded | go_step | go_upon))
    go_ret
    exact ⟨va, vc, rfl, h1, h2, H3.out, HB.out⟩

end Go.Proofs.YtaoonpncnahhgaaDoor

namespace Go.Proofs.YtaoonpncnahhgaaDoor
open Go.RowKit

noncomputable def body23 : Code := ((Tryd.f23.body.bind firstLoop).getD .skip)

set_option maxRecDepth 100000 in
/-- the frame at the loop's head -/
def frm23 (s0 s2 s3 s4 : Value) (u : Nat → Value) : Act := ⟨#[s0, u 1, s2, s3, s4, u 5, u 6, u 7, u 8, u 9, u 10, u 11, u 12, u 13, u 14, u 15, u 16, u 17, u 18, u 19, u 20, u 21, u 22, u 23, u 24, u 25, u 26, u 27, u 28, u 29, u 30, u 31, u 32, u 33, u 34, u 35, u 36, u 37, u 38, u 39, u 40, u 41, u 42, u 43, u 44, u 45, u 46, u 47, u 48, u 49, u 50, u 51, u 52, u 53, u 54, u 55, u 56, u 57, u 58, u 59, u 60, u 61, u 62, u 63, u 64, u 65, u 66, u 67, u 68, u 69, u 70, u 71, u 72, u 73, u 74, u 75, u 76, u 77, u 78, u 79, u 80, u 81, u 82, u 83, u 84, u 85, u 86, u 87, u 88, u 89, u 90, u 91, u 92, u 93, u 94, u 95, u 96, u 97, u 98, u 99, u 100, u 101, u 102, u 103, u 104, u 105, u 106, u 107, u 108, u 109, u 110, u 111, u 112, u 113, u 114, u 115, u 116, u 117, u 118, u 119, u 120, u 121, u 122, u 123, u 124, u 125, u 126, u 127, u 128, u 129, u 130, u 131, u 132, u 133, u 134, u 135, u 136, u 137, u 138, u 139, u 140, u 141, u 142, u 143, u 144, u 145, u 146, u 147, u 148, u 149, u 150, u 151, u 152, u 153, u 154, u 155, u 156, u 157, u 158, u 159, u 160, u 161, u 162, u 163, u 164, u 165, u 166, u 167, u 168, u 169, u 170, u 171, u 172, u 173, u 174, u 175, u 176, u 177, u 178, u 179, u 180, u 181, u 182, u 183, u 184, u 185, u 186, u 187, u 188, u 189, u 190, u 191, u 192, u 193, u 194, u 195, u 196, u 197, u 198, u 199, u 200, u 201, u 202, u 203, u 204, u 205, u 206, u 207, u 208, u 209, u 210, u 211, u 212, u 213, u 214, u 215, u 216, u 217, u 218, u 219, u 220, u 221, u 222, u 223, u 224, u 225, u 226, u 227, u 228, u 229, u 230, u 231, u 232, u 233, u 234, u 235, u 236, u 237, u 238, u 239, u 240, u 241, u 242, u 243, u 244, u 245, u 246, u 247, u 248, u 249, u 250, u 251, u 252, u 253, u 254, u 255, u 256, u 257, u 258, u 259, u 260, u 261, u 262, u 263, u 264, u 265, u 266, u 267, u 268, u 269, u 270, u 271, u 272, u 273, u 274, u 275, u 276, u 277, u 278, u 279, u 280, u 281, u 282, u 283, u 284, u 285, u 286, u 287, u 288, u 289, u 290, u 291, u 292, u 293, u 294, u 295, u 296, u 297, u 298, u 299, u 300, u 301, u 302, u 303, u 304, u 305, u 306, u 307, u 308, u 309, u 310, u 311, u 312, u 313, u 314, u 315, u 316, u 317, u 318, u 319, u 320, u 321, u 322, u 323, u 324, u 325, u 326, u 327, u 328, u 329, u 330, u 331, u 332, u 333, u 334, u 335, u 336, u 337, u 338, u 339, u 340, u 341, u 342, u 343, u 344, u 345, u 346, u 347, u 348, u 349, u 350, u 351, u 352, u 353, u 354, u 355, u 356, u 357, u 358, u 359, u 360, u 361, u 362, u 363, u 364, u 365, u 366, u 367, u 368, u 369, u 370, u 371, u 372, u 373, u 374, u 375, u 376, u 377, u 378, u 379, u 380, u 381, u 382, u 383, u 384, u 385, u 386, u 387, u 388, u 389, u 390, u 391, u 392, u 393, u 394, u 395, u 396, u 397, u 398, u 399, u 400, u 401, u 402, u 403, u 404, u 405, u 406, u 407, u 408, u 409, u 410, u 411, u 412, u 413, u 414, u 415, u 416, u 417, u 418, u 419, u 420, u 421, u 422, u 423, u 424, u 425, u 426, u 427, u 428, u 429, u 430, u 431, u 432, u 433, u 434, u 435, u 436, u 437, u 438, u 439, u 440, u 441, u 442, u 443, u 444, u 445, u 446, u 447, u 448, u 449, u 450, u 451, u 452, u 453, u 454, u 455, u 456, u 457, u 458, u 459, u 460, u 461, u 462, u 463, u 464, u 465, u 466, u 467, u 468, u 469, u 470, u 471, u 472, u 473, u 474, u 475, u 476, u 477, u 478, u 479, u 480, u 481, u 482, u 483, u 484, u 485, u 486, u 487, u 488, u 489, u 490, u 491, u 492, u 493, u 494, u 495, u 496, u 497, u 498], []⟩

/-- what the loop's head holds -/
structure Sl23 (s0 s2 s3 s4 : Value) (a : Act) : Prop where
  df : a.defers = []
  sz : a.tmps.size = 499
  h0 : a.tmps.getD 0 undef = s0
  h2 : a.tmps.getD 2 undef = s2
  h3 : a.tmps.getD 3 undef = s3
  h4 : a.tmps.getD 4 undef = s4

set_option maxRecDepth 100000 in
theorem Sl23.frm {s0 s2 s3 s4 : Value} {a : Act} (h : Sl23 s0 s2 s3 s4 a) : ∃ u, a = frm23 s0 s2 s3 s4 u := by
  obtain ⟨F, df⟩ := a
  obtain ⟨rfl, hs, rfl, rfl, rfl, rfl⟩ := h
  refine ⟨fun i => F.getD i undef, ?_⟩
  have e := open_frame F
  rw [hs] at e
  unfold frm23
  exact congrArg (Act.mk · []) e

/-- a round of the loop takes these bytes off and appends this value -/
def Round23 (chunk : List UInt8) (y : AV) : Prop :=
  ∀ (K : Act → World → Prop) (Q0 : Exit → Act → World → Prop) (w wr : World) (a : Option Addr) (c k : Nat) (rest : List UInt8) (v : Value) (vs : List Value) (xs : List AV) (s4 : Value) (u : Nat → Value),
    (chunk ++ rest).length ≤ c → c ≤ 9223372036854775807 → (chunk ++ rest).length ≤ 100000000 → k ≤ 100000000 →
    rdB w.heap.size wr a (chunk ++ rest).length (chunk ++ rest) → Below w.heap.size w wr → wr.ownsRow w.heap.size 20 1 v k vs → xs.length = k → areV wr.heap.size wr xs vs →
    (∀ a' w' b c' v' vs', Sl23 (.slice b rest.length c') v' .nilIface s4 a' → rest.length ≤ c' → c' ≤ 9223372036854775807 → rdB w.heap.size w' b rest.length rest → Below w.heap.size w w' →
      w'.ownsRow w.heap.size 20 1 v' (k + 1) vs' → areV w'.heap.size w' (xs ++ [y]) vs' → K a' w') →
    Code.wp Tryd.prog body23 (Exit.then K Q0) (frm23 (.slice a (chunk ++ rest).length c) v .nilIface s4 u) wr

set_option maxRecDepth 100000 in
set_option maxHeartbeats 2000000 in
theorem round23_small (t : UInt8) (ht : 85 ≤ t.toNat) : Round23 [t] (.i64 ((t.toNat : Int) - 85)) := by
  obtain ⟨i0, hi, hz0, hz1, hz2⟩ := info_parts info20
  intro K Q0 w wr a c k rest v vs xs s4 u hlc hc hl hk hr hB hO hx hV hnext
  obtain ⟨T, hT⟩ : ∃ T : Int, (t.toNat : Int) = T := ⟨_, rfl⟩
  have hT1 : 85 ≤ T := by omega
  have hT2 : T < 256 := by have := t.toNat_lt; omega
  have hq : ∀ q : Int, q < 85 → (T == q) = false := fun q h => by rw [beq_eq_false_iff_ne]; omega
  obtain ⟨b, o, rfl, hlt, hcell⟩ : ∃ b o, a = some ⟨b, o, none⟩ ∧ b < w.heap.size ∧ ∀ (i : Nat) (x : UInt8), ([t] ++ rest)[i]? = some x → wr.cell? ⟨b, o + i, none⟩ = some (.int .u8 (x.toNat : Int)) := by
    rcases hr.2 with h | h
    · cases h
    · exact h
  have hc0 : wr.cell? ⟨b, o, none⟩ = some (.int .u8 T) := by rw [← hT]; exact hcell 0 t rfl
  have hlen : ([t] ++ rest).length = rest.length + 1 := by simp
  rw [hlen] at hlc hl
  rw [hlen]
  have HC := Lib.hid hcell
  have HN := Lib.hid hnext
  have HO := Lib.hid hO
  have HV := Lib.hid hV
  have HX := Lib.hid hx
  have HT := Lib.hid hT
  generalize hm : rest.length = m at *
  have HM := Lib.hid hm
  clear hr hcell hnext hlen hO hV hx hT hm ht
  conv => arg 2; whnf
  unfold frm23
  (repeat (first | (at_builtin; refine wpList_append_own _ rfl (.tmp 35) (.tmp 42) 54 rfl w.heap.size 20 i0 _ 1 16 Tryd.underlying54 hi hz0 hz1 hz2 rfl (by decide) _ k vs rfl ?own ⟨wr.heap.size, 0, none⟩ 1 1 [.iface 2 (.int .i64 (T - 85))] rfl rfl ?c1 ?c2 ?c3 ?c4 ?c5 ?_) | go_values | go_skip | go_guarded | go_step | go_upon))
  case own => exact HO.out.alloc _
  case c1 => exact fun j u hj => (cell_new wr 20 _ j).trans hj
  case c2 => intro u hu; simp at hu; subst hu; rfl
  case c3 => unfold maxLen; omega
  case c4 => omega
  case c5 => have := hB.size; show _ ≤ (wr.alloc _).heap.size; simp; omega
  intro v' w1 hown hgrow _
  have hV2 := areV_snoc HO.out HX.out HV.out (x := .i64 (T - 85)) (u := .iface 2 (.int .i64 (T - 85))) rfl hgrow
  have hB2 := (hB.alloc hB.size (.cells #[.iface 2 (.int .i64 (T - 85))] 20)).grown hgrow (by have := hB.size; show _ ≤ (wr.alloc _).heap.size; simp; omega) (fun g hg => (HO.out.lt g hg).1)
  have HO2 := Lib.hid hown
  have HV2 := Lib.hid hV2
  have HB2 := Lib.hid hB2
  clear hown hgrow hV2 hB2 hc0
  (repeat (first | go_values | go_skip | go_guarded | go_step | go_upon))
  refine HN.out _ w1 _ (c - 1) v' _ ⟨rfl, rfl, rfl, rfl, rfl, rfl⟩ (by omega) (by omega) ?rd HB2.out HO2.out ?av
  case av => rw [HT.out]; exact HV2.out
  case rd =>
    refine ⟨HM.out, ?_⟩
    rcases Nat.eq_zero_or_pos m with h | h
    · exact .inl (List.eq_nil_of_length_eq_zero (HM.out.trans h))
    · refine .inr ⟨b, o + 1, by rw [if_neg (by omega)], hlt, fun i x hx => ?_⟩
      refine (HB2.out.cell (p := ⟨b, o + 1 + i, none⟩) hlt).trans ((hB.cell (p := ⟨b, o + 1 + i, none⟩) hlt).symm.trans ?_)
      rw [Nat.add_assoc, Nat.add_comm 1 i]
      exact HC.out (i + 1) x hx

end Go.Proofs.YtaoonpncnahhgaaDoor

namespace Go.Proofs.YtaoonpncnahhgaaDoor
open Go.RowKit

set_option maxRecDepth 100000 in
set_option maxHeartbeats 2000000 in
theorem exit23 (K : Act → World → Prop) (Q0 : Exit → Act → World → Prop) (w : World) (c : Nat) (a : Option Addr) (v s4 : Value) (u : Nat → Value)
    (HE : Hid (∀ a', Sl23 (.slice a 0 c) v .nilIface s4 a' → Q0 (.exit 0) a' w)) :
    Code.wp Tryd.prog body23 (Exit.then K Q0) (frm23 (.slice a 0 c) v .nilIface s4 u) w := by
  conv => arg 2; whnf
  unfold frm23
  (repeat (first | go_values | go_skip | go_guarded | go_step | go_upon))
  exact HE.out _ ⟨rfl, rfl, rfl, rfl, rfl, rfl⟩

/-- the bytes, the values of pieces -/
abbrev bytesOf (cs : List (List UInt8 × AV)) : List UInt8 := cs.flatMap Prod.fst
abbrev valsOf (cs : List (List UInt8 × AV)) : List AV := cs.map Prod.snd

theorem loop23 (Q0 : Exit → Act → World → Prop) (w : World) (a : Option Addr) (c : Nat) (cs : List (List UInt8 × AV)) (s4 : Value) (A : Act)
    (hA : Sl23 (.slice a (bytesOf cs).length c) (.slice none 0 0) .nilIface s4 A) (hlc : (bytesOf cs).length ≤ c) (hc : c ≤ 9223372036854775807) (hl : (bytesOf cs).length ≤ 100000000) (hk : cs.length ≤ 100000000)
    (hr : rdB w.heap.size w a (bytesOf cs).length (bytesOf cs)) (hR : ∀ p ∈ cs, Round23 p.1 p.2 ∧ p.1 ≠ [])
    (hexit : ∀ a' w' b c' v' vs', Sl23 (.slice b 0 c') v' .nilIface s4 a' → Below w.heap.size w w' → w'.ownsRow w.heap.size 20 1 v' cs.length vs' → areV w'.heap.size w' (valsOf cs) vs' → Q0 (.exit 0) a' w') :
    Code.wp Tryd.prog (Code.loop body23) Q0 A w := by
  refine wp_loop (fun a' w' => ∃ (j : Nat) (b : Option Addr) (c' : Nat) (v : Value) (vs : List Value), j ≤ cs.length ∧ Sl23 (.slice b (bytesOf (cs.drop j)).length c') v .nilIface s4 a' ∧ (bytesOf (cs.drop j)).length ≤ c' ∧ c' ≤ 9223372036854775807 ∧
      rdB w.heap.size w' b (bytesOf (cs.drop j)).length (bytesOf (cs.drop j)) ∧ Below w.heap.size w w' ∧ w'.ownsRow w.heap.size 20 1 v j vs ∧ areV w'.heap.size w' (valsOf (cs.take j)) vs)
    (fun a' _ => match a'.tmps.getD 0 undef with | .slice _ n _ => n | _ => 0) ⟨0, a, c, _, [], Nat.zero_le _, hA, hlc, hc, hr, Below.refl _ _, World.ownsRow_nil _ _ _ _, fun i x hx => by simp at hx⟩ ?_
  rintro a' w' ⟨j, b, c', v, vs, hj, hs, h1, h2, h3, h4, h5, h6⟩
  have hmu : (match a'.tmps.getD 0 undef with | .slice _ n _ => n | _ => 0) = (bytesOf (cs.drop j)).length := by rw [hs.h0]
  rw [hmu]
  clear hmu
  obtain ⟨u, rfl⟩ := hs.frm
  clear hs
  by_cases hlt : j < cs.length
  · obtain ⟨p, hp⟩ : ∃ p, cs[j]? = some p := ⟨_, List.getElem?_eq_getElem hlt⟩
    have hd : cs.drop j = p :: cs.drop (j + 1) := by
      obtain ⟨l, e⟩ := List.getElem?_eq_some_iff.1 hp
      rw [List.drop_eq_getElem_cons l, e]
    have hbd : bytesOf (cs.drop j) = p.1 ++ bytesOf (cs.drop (j + 1)) := by rw [hd]; rfl
    have htk : valsOf (cs.take (j + 1)) = valsOf (cs.take j) ++ [p.2] := by
      obtain ⟨l, e⟩ := List.getElem?_eq_some_iff.1 hp
      unfold valsOf
      rw [List.take_succ_eq_append_getElem l, List.map_append, e]; rfl
    have hle : (bytesOf (cs.drop j)).length ≤ 100000000 := by
      refine Nat.le_trans ?_ hl
      unfold bytesOf
      conv => rhs; rw [← List.take_append_drop j cs, List.flatMap_append, List.length_append]
      omega
    obtain ⟨hr1, hr2⟩ := hR p (List.mem_of_getElem? hp)
    rw [hbd] at h1 h3 hle ⊢
    refine hr1 _ _ w w' b c' j _ v vs _ s4 u h1 h2 hle (by omega) h3 h4 h5 (by rw [List.length_map, List.length_take]; omega) h6 ?_
    intro a2 w2 b2 c2 v2 vs2 hs2 g1 g2 g3 g4 g5 g6
    refine ⟨⟨j + 1, b2, c2, v2, vs2, by omega, hs2, g1, g2, g3, g4, g5, by rw [htk]; exact g6⟩, ?_⟩
    rw [hs2.h0, List.length_append]
    have : 0 < p.1.length := List.length_pos_iff.2 hr2
    show (bytesOf _).length < _
    omega
  · obtain rfl : j = cs.length := by omega
    rw [List.drop_length] at *
    rw [List.take_length] at h6
    exact exit23 _ _ _ _ _ _ _ _ (fun a2 hs2 => hexit a2 _ _ _ _ _ hs2 h4 h5 h6)

end Go.Proofs.YtaoonpncnahhgaaDoor

namespace Go.Proofs.YtaoonpncnahhgaaDoor
open Go.RowKit

theorem ownsRow_some {w : World} {base : Nat} {e : TypeId} {v : Value} {n : Nat} {xs : List Value} (h : w.ownsRow base e 1 v n xs) (hn : 0 < n) :
    ∃ g c, v = .slice (some ⟨g, 0, none⟩) n c ∧ ∀ (j : Nat) (u : Value), xs[j]? = some u → w.cell? ((⟨g, 0, none⟩ : Addr).add j) = some u := by
  rcases h.2 with ⟨rfl, rfl⟩ | ⟨g, cap, cur, rfl, hb, hg, hnc, hcm, hcs, htake⟩
  · omega
  · refine ⟨g, cap, rfl, fun j u hu => ?_⟩
    rw [add_eq, (cells_at hg).1, Nat.zero_add]
    have hj : j < n := by
      have h1 := h.1
      rcases Nat.lt_or_ge j xs.length with h' | h'
      · omega
      · rw [List.getElem?_eq_none h'] at hu; cases hu
    rw [← htake, List.getElem?_take_of_lt (by omega)] at hu
    simpa using hu

set_option maxRecDepth 100000 in
set_option maxHeartbeats 2000000 in
theorem decs_any (a : Option Addr) (c : Nat) (cs : List (List UInt8 × AV)) (bs : List UInt8) (hbs : bytesOf cs = bs) (w : World) (hne : cs ≠ []) (hlc : bs.length ≤ c) (hc : c ≤ 9223372036854775807) (hl : bs.length ≤ 100000000) (hk : cs.length ≤ 100000000)
    (hr : rdB w.heap.size w a bs.length bs) (hR : ∀ p ∈ cs, Round23 p.1 p.2 ∧ p.1 ≠ []) :
    Calls Tryd.prog 23 #[.slice a bs.length c] w fun e w' => ∃ a' c', e = .returned (.tuple #[.slice a' cs.length c', .nilIface]) ∧ rdV w'.heap.size w' a' (valsOf cs) ∧ Below w.heap.size w w' := by
  obtain ⟨i0, hi, hz0, hz1, hz2⟩ := info_parts info20
  obtain ⟨k, hkk⟩ : ∃ k, cs.length = k := ⟨_, rfl⟩
  have hk0 : 0 < k := by rw [← hkk]; exact List.length_pos_iff.2 hne
  have HL := Lib.hid (fun Q0 s4 A hA hE => loop23 Q0 w a c cs s4 A (by rw [hbs]; exact hA) (by rw [hbs]; exact hlc) hc (by rw [hbs]; exact hl) hk (by rw [hbs]; exact hr) hR hE)
  rw [hkk] at HL hk ⊢
  clear hr hR hbs hne
  have HKK := Lib.hid hkk
  clear hkk
  go_enter Tryd.func23, Tryd.ntmps23
  (repeat (first | go_values | go_skip | go_guarded | go_step | go_step3 | go_upon))
  refine HL.out _ _ _ ⟨rfl, rfl, rfl, rfl, rfl, rfl⟩ ?_
  intro a' w' b c' v' vs' hs hbl ho hv
  obtain ⟨u, rfl⟩ := hs.frm
  clear hs
  obtain ⟨g, d, rfl, hcells⟩ := ownsRow_some ho hk0
  have HO := Lib.hid ho
  have HV := Lib.hid hv
  have HBL := Lib.hid hbl
  have HCS := Lib.hid hcells
  clear hbl ho hv hcells
  unfold frm23
  (repeat (first | (at_builtin; refine wpList_append_own _ rfl (.const (.slice none 0 0)) (.tmp 487) 54 rfl w.heap.size 20 i0 _ 1 16 Tryd.underlying54 hi hz0 hz1 hz2 rfl (by decide) _ 0 [] rfl ?own ⟨g, 0, none⟩ k d vs' rfl ?c0 ?c1 ?c2 ?c3 ?c4 ?c5 ?_) | go_values | go_skip | go_guarded | go_step | go_step3 | go_upon))
  case own => exact World.ownsRow_nil _ _ _ _
  case c0 => exact HO.out.1
  case c1 => exact HCS.out
  case c2 =>
    intro u hu
    obtain ⟨j, hj⟩ := List.getElem?_of_mem hu
    have hjk : j < (valsOf cs).length := by
      have h1 := HO.out.1
      have h2 : (valsOf cs).length = k := by rw [List.length_map]; exact HKK.out
      rcases Nat.lt_or_ge j vs'.length with h | h
      · omega
      · rw [List.getElem?_eq_none h] at hj; cases hj
    obtain ⟨v, h1, h2⟩ := HV.out j _ (List.getElem?_eq_getElem hjk)
    rw [hj] at h1
    cases h1
    exact avIs_one h2
  case c3 => unfold maxLen; omega
  case c4 => omega
  case c5 => exact HBL.out.size
  intro v' w1 hown hgrow _
  rw [Nat.zero_add, List.nil_append] at hown
  have hV1 : areV w1.heap.size w1 (valsOf cs) vs' := fun i x hx => (HV.out i x hx).imp fun v ⟨h1, h2⟩ => ⟨h1, avIs_grown h2 hgrow (fun g h => by cases h)⟩
  obtain ⟨va, vc, rfl, hrd⟩ := rdV_of_owns (by rw [List.length_map]; exact HKK.out) hown hV1
  have hbb := HBL.out.grown hgrow HBL.out.size (fun g h => by cases h)
  have HB2 := Lib.hid hbb
  have HR2 := Lib.hid hrd
  clear hown hgrow hV1 hbb hrd
  (repeat (first | go_values | go_skip | go_guarded | go_step | go_step3 | go_upon))
  simp only [Exit.noGoto]
  go_ret2
  exact ⟨va, vc, rfl, HR2.out, HB2.out⟩

end Go.Proofs.YtaoonpncnahhgaaDoor
