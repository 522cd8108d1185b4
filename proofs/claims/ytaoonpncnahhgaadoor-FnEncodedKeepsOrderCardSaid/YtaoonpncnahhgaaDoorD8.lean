/-
  DecodeScalars: its three loops over a number's bytes.
-/
import Derived.Test.YtaoonpncnahhgaaDoorDa
import Derived.Test.YtaoonpncnahhgaaDoorEa
import Derived.Lib.QuoteBits
namespace Go.Proofs.YtaoonpncnahhgaaDoor
open Go.RowKit

/-- the loops in a text of code that lie in no other -/
def loopsIn : Code → List Code
  | .loop c => [c]
  | .seq a b => loopsIn a ++ loopsIn b
  | .block _ c => loopsIn c
  | .scope c => loopsIn c
  | .cond _ a b => loopsIn a ++ loopsIn b
  | _ => []

/-- a number's bytes, the greatest first -/
def valB (xs : List UInt8) : Nat := xs.foldl (fun u x => u * 256 + x.toNat) 0
theorem valB_snoc (xs : List UInt8) (x : UInt8) : valB (xs ++ [x]) = valB xs * 256 + x.toNat := by unfold valB; rw [List.foldl_append]; rfl
theorem valB_lt : ∀ (n : Nat) (xs : List UInt8), xs.length = n → valB xs < 256 ^ n
  | 0, xs, h => by rw [List.eq_nil_of_length_eq_zero h]; exact Nat.one_pos
  | n + 1, xs, h => by
    obtain ⟨ys, y, rfl⟩ : ∃ ys y, xs = ys ++ [y] := ⟨_, _, (List.dropLast_concat_getLast (l := xs) (by intro h'; subst h'; simp at h)).symm⟩
    have := valB_lt n ys (by simp at h; exact h)
    have hy := y.toNat_lt
    rw [valB_snoc, Nat.pow_succ]
    omega
/-- the same, from minus one on, in 64 bits -/
def valM (xs : List UInt8) : Nat := xs.foldl (fun u x => u % 72057594037927936 * 256 + x.toNat) 18446744073709551615
theorem valM_snoc (xs : List UInt8) (x : UInt8) : valM (xs ++ [x]) = valM xs % 72057594037927936 * 256 + x.toNat := by unfold valM; rw [List.foldl_append]; rfl
theorem valM_lt (xs : List UInt8) : valM xs < 18446744073709551616 := by
  by_cases h : xs = []
  · subst h; decide
  · obtain ⟨ys, y, rfl⟩ : ∃ ys y, xs = ys ++ [y] := ⟨_, _, (List.dropLast_concat_getLast h).symm⟩
    have hy := y.toNat_lt
    rw [valM_snoc]
    omega

theorem take_snoc {xs : List UInt8} {j : Nat} {x : UInt8} (h : xs[j]? = some x) : xs.take (j + 1) = xs.take j ++ [x] := by
  obtain ⟨l, e⟩ := List.getElem?_eq_some_iff.1 h
  rw [List.take_succ_eq_append_getElem l, e]

theorem valB_take : ∀ (xs : List UInt8) (j : Nat), valB (xs.take j) ≤ valB xs := by
  intro xs
  suffices h : ∀ (d j : Nat), xs.length - j = d → valB (xs.take j) ≤ valB xs from fun j => h _ j rfl
  intro d
  induction d with
  | zero => intro j hj; rw [List.take_of_length_le (by omega)]; exact Nat.le_refl _
  | succ d ih =>
    intro j hj
    have h1 := ih (j + 1) (by omega)
    obtain ⟨x, hx⟩ : ∃ x, xs[j]? = some x := ⟨_, List.getElem?_eq_getElem (by omega)⟩
    rw [take_snoc hx, valB_snoc] at h1
    omega

set_option maxRecDepth 100000 in
theorem or256i (a r : Nat) (ha : a * 256 + 255 < 9223372036854775808) (hr : r < 256) : bits .or .i64 ((a : Int) * 256) (r : Int) = (a : Int) * 256 + r := by
  rw [show (a : Int) * 256 = ((a * 256 : Nat) : Int) by omega]
  show IntKind.i64.wrap ((BitVec.ofInt 64 ((a * 256 : Nat) : Int) ||| BitVec.ofInt 64 ((r : Nat) : Int)).toNat : Int) = _
  have e1 : a * 256 < 18446744073709551616 := by omega
  have e2 : r < 18446744073709551616 := by omega
  rw [BitVec.toNat_or, ofInt_u64 _ e1, ofInt_u64 _ e2, Nat.mul_comm a 256]
  have h := Nat.two_pow_add_eq_or_of_lt (i := 8) (b := r) (by omega) a
  rw [show (2 : Nat) ^ 8 = 256 from rfl] at h
  rw [← h, Lib.wrap_i64_small _ (by omega)]
  omega

noncomputable def bodyU : Code := (loopsIn body23).getD 0 .skip

set_option maxRecDepth 100000 in
/-- the frame at the loop's head -/
def frmU (s0 s2 s3 s4 s15 s16 s384 s385 s386 : Value) (u : Nat → Value) : Act := ⟨#[s0, u 1, s2, s3, s4, u 5, u 6, u 7, u 8, u 9, u 10, u 11, u 12, u 13, u 14, s15, s16, u 17, u 18, u 19, u 20, u 21, u 22, u 23, u 24, u 25, u 26, u 27, u 28, u 29, u 30, u 31, u 32, u 33, u 34, u 35, u 36, u 37, u 38, u 39, u 40, u 41, u 42, u 43, u 44, u 45, u 46, u 47, u 48, u 49, u 50, u 51, u 52, u 53, u 54, u 55, u 56, u 57, u 58, u 59, u 60, u 61, u 62, u 63, u 64, u 65, u 66, u 67, u 68, u 69, u 70, u 71, u 72, u 73, u 74, u 75, u 76, u 77, u 78, u 79, u 80, u 81, u 82, u 83, u 84, u 85, u 86, u 87, u 88, u 89, u 90, u 91, u 92, u 93, u 94, u 95, u 96, u 97, u 98, u 99, u 100, u 101, u 102, u 103, u 104, u 105, u 106, u 107, u 108, u 109, u 110, u 111, u 112, u 113, u 114, u 115, u 116, u 117, u 118, u 119, u 120, u 121, u 122, u 123, u 124, u 125, u 126, u 127, u 128, u 129, u 130, u 131, u 132, u 133, u 134, u 135, u 136, u 137, u 138, u 139, u 140, u 141, u 142, u 143, u 144, u 145, u 146, u 147, u 148, u 149, u 150, u 151, u 152, u 153, u 154, u 155, u 156, u 157, u 158, u 159, u 160, u 161, u 162, u 163, u 164, u 165, u 166, u 167, u 168, u 169, u 170, u 171, u 172, u 173, u 174, u 175, u 176, u 177, u 178, u 179, u 180, u 181, u 182, u 183, u 184, u 185, u 186, u 187, u 188, u 189, u 190, u 191, u 192, u 193, u 194, u 195, u 196, u 197, u 198, u 199, u 200, u 201, u 202, u 203, u 204, u 205, u 206, u 207, u 208, u 209, u 210, u 211, u 212, u 213, u 214, u 215, u 216, u 217, u 218, u 219, u 220, u 221, u 222, u 223, u 224, u 225, u 226, u 227, u 228, u 229, u 230, u 231, u 232, u 233, u 234, u 235, u 236, u 237, u 238, u 239, u 240, u 241, u 242, u 243, u 244, u 245, u 246, u 247, u 248, u 249, u 250, u 251, u 252, u 253, u 254, u 255, u 256, u 257, u 258, u 259, u 260, u 261, u 262, u 263, u 264, u 265, u 266, u 267, u 268, u 269, u 270, u 271, u 272, u 273, u 274, u 275, u 276, u 277, u 278, u 279, u 280, u 281, u 282, u 283, u 284, u 285, u 286, u 287, u 288, u 289, u 290, u 291, u 292, u 293, u 294, u 295, u 296, u 297, u 298, u 299, u 300, u 301, u 302, u 303, u 304, u 305, u 306, u 307, u 308, u 309, u 310, u 311, u 312, u 313, u 314, u 315, u 316, u 317, u 318, u 319, u 320, u 321, u 322, u 323, u 324, u 325, u 326, u 327, u 328, u 329, u 330, u 331, u 332, u 333, u 334, u 335, u 336, u 337, u 338, u 339, u 340, u 341, u 342, u 343, u 344, u 345, u 346, u 347, u 348, u 349, u 350, u 351, u 352, u 353, u 354, u 355, u 356, u 357, u 358, u 359, u 360, u 361, u 362, u 363, u 364, u 365, u 366, u 367, u 368, u 369, u 370, u 371, u 372, u 373, u 374, u 375, u 376, u 377, u 378, u 379, u 380, u 381, u 382, u 383, s384, s385, s386, u 387, u 388, u 389, u 390, u 391, u 392, u 393, u 394, u 395, u 396, u 397, u 398, u 399, u 400, u 401, u 402, u 403, u 404, u 405, u 406, u 407, u 408, u 409, u 410, u 411, u 412, u 413, u 414, u 415, u 416, u 417, u 418, u 419, u 420, u 421, u 422, u 423, u 424, u 425, u 426, u 427, u 428, u 429, u 430, u 431, u 432, u 433, u 434, u 435, u 436, u 437, u 438, u 439, u 440, u 441, u 442, u 443, u 444, u 445, u 446, u 447, u 448, u 449, u 450, u 451, u 452, u 453, u 454, u 455, u 456, u 457, u 458, u 459, u 460, u 461, u 462, u 463, u 464, u 465, u 466, u 467, u 468, u 469, u 470, u 471, u 472, u 473, u 474, u 475, u 476, u 477, u 478, u 479, u 480, u 481, u 482, u 483, u 484, u 485, u 486, u 487, u 488, u 489, u 490, u 491, u 492, u 493, u 494, u 495, u 496, u 497, u 498], []⟩

/-- what the loop's head holds -/
structure SlU (s0 s2 s3 s4 s15 s16 s384 s385 s386 : Value) (a : Act) : Prop where
  df : a.defers = []
  sz : a.tmps.size = 499
  h0 : a.tmps.getD 0 undef = s0
  h2 : a.tmps.getD 2 undef = s2
  h3 : a.tmps.getD 3 undef = s3
  h4 : a.tmps.getD 4 undef = s4
  h15 : a.tmps.getD 15 undef = s15
  h16 : a.tmps.getD 16 undef = s16
  h384 : a.tmps.getD 384 undef = s384
  h385 : a.tmps.getD 385 undef = s385
  h386 : a.tmps.getD 386 undef = s386

set_option maxRecDepth 100000 in
theorem SlU.frm {s0 s2 s3 s4 s15 s16 s384 s385 s386 : Value} {a : Act} (h : SlU s0 s2 s3 s4 s15 s16 s384 s385 s386 a) : ∃ u, a = frmU s0 s2 s3 s4 s15 s16 s384 s385 s386 u := by
  obtain ⟨F, df⟩ := a
  obtain ⟨rfl, hs, rfl, rfl, rfl, rfl, rfl, rfl, rfl, rfl, rfl⟩ := h
  refine ⟨fun i => F.getD i undef, ?_⟩
  have e := open_frame F
  rw [hs] at e
  unfold frmU
  exact congrArg (Act.mk · []) e

set_option maxRecDepth 100000 in
set_option maxHeartbeats 2000000 in
theorem loopU (Q0 : Exit → Act → World → Prop) (w : World) (b o n c : Nat) (xs : List UInt8) (hl : xs.length = n) (hn : n ≤ 8) (hc : ∀ (i : Nat) (x : UInt8), xs[i]? = some x → w.cell? ⟨b, o + i, none⟩ = some (.int .u8 (x.toNat : Int)))
    (s0 s2 s3 s4 s15 : Value) (A : Act) (hA : SlU s0 s2 s3 s4 s15 (.int .u64 0) (.slice (some ⟨b, o, none⟩) n c) (.int .i64 (n : Int)) (.int .i64 0) A)
    (hexit : ∀ a', SlU s0 s2 s3 s4 s15 (.int .u64 ((valB xs : Nat) : Int)) (.slice (some ⟨b, o, none⟩) n c) (.int .i64 (n : Int)) (.int .i64 (n : Int)) a' → Q0 (.exit 3) a' w) :
    Code.wp Tryd.prog (Code.loop bodyU) Q0 A w := by
  refine wp_loop (fun a' w' => w' = w ∧ ∃ j : Nat, j ≤ n ∧ SlU s0 s2 s3 s4 s15 (.int .u64 ((valB (xs.take j) : Nat) : Int)) (.slice (some ⟨b, o, none⟩) n c) (.int .i64 (n : Int)) (.int .i64 (j : Int)) a')
    (fun a' _ => n - (intOf (a'.tmps.getD 386 undef)).toNat) ⟨rfl, 0, by omega, hA⟩ ?_
  rintro a' w' ⟨rfl, j, hj, hs⟩
  have hmu : intOf (a'.tmps.getD 386 undef) = j := by rw [hs.h386]; rfl
  rw [hmu]
  clear hmu
  obtain ⟨u, rfl⟩ := hs.frm
  clear hs
  by_cases hlt : j < n
  · obtain ⟨x, hx⟩ : ∃ x, xs[j]? = some x := ⟨_, List.getElem?_eq_getElem (by omega)⟩
    have hcell := hc j x hx
    have hval : valB (xs.take (j + 1)) = valB (xs.take j) * 256 + x.toNat := by rw [take_snoc hx, valB_snoc]
    have hy : valB (xs.take j) < 72057594037927936 := by
      refine Nat.lt_of_lt_of_le (valB_lt j _ (by rw [List.length_take]; omega)) ?_
      exact Nat.le_trans (Nat.pow_le_pow_right (by omega) (show j ≤ 7 by omega)) (by decide)
    have HX := Lib.hid hexit
    have HV := Lib.hid hval
    clear hexit hval hc hx hA
    generalize valB (xs.take j) = y at *
    have hr := x.toNat_lt
    generalize x.toNat = r at *
    have hor := or256 y r (by omega) hr
    conv => arg 2; whnf
    unfold frmU
    (repeat (first | go_values | go_skip | go_guarded | go_step | go_upon))
    refine ⟨⟨trivial, j + 1, by omega, rfl, rfl, rfl, rfl, rfl, rfl, rfl, ?_, rfl, rfl, rfl⟩, ?_⟩
    · rw [HV.out]
      show Value.int _ _ = Value.int _ _
      congr 1
      try omega
    · simp [intOf]; omega
  · obtain rfl : j = n := by omega
    rw [List.take_of_length_le (by omega)]
    have HX := Lib.hid hexit
    clear hexit hc hA
    generalize valB xs = y at *
    conv => arg 2; whnf
    unfold frmU
    (repeat (first | go_values | go_skip | go_guarded | go_step | go_upon))
    exact HX.out _ ⟨rfl, rfl, rfl, rfl, rfl, rfl, rfl, rfl, rfl, rfl, rfl⟩

noncomputable def bodyM : Code := (loopsIn body23).getD 1 .skip

set_option maxRecDepth 100000 in
/-- the frame at the loop's head -/
def frmM (s0 s2 s3 s4 s19 s20 s425 s426 s427 : Value) (u : Nat → Value) : Act := ⟨#[s0, u 1, s2, s3, s4, u 5, u 6, u 7, u 8, u 9, u 10, u 11, u 12, u 13, u 14, u 15, u 16, u 17, u 18, s19, s20, u 21, u 22, u 23, u 24, u 25, u 26, u 27, u 28, u 29, u 30, u 31, u 32, u 33, u 34, u 35, u 36, u 37, u 38, u 39, u 40, u 41, u 42, u 43, u 44, u 45, u 46, u 47, u 48, u 49, u 50, u 51, u 52, u 53, u 54, u 55, u 56, u 57, u 58, u 59, u 60, u 61, u 62, u 63, u 64, u 65, u 66, u 67, u 68, u 69, u 70, u 71, u 72, u 73, u 74, u 75, u 76, u 77, u 78, u 79, u 80, u 81, u 82, u 83, u 84, u 85, u 86, u 87, u 88, u 89, u 90, u 91, u 92, u 93, u 94, u 95, u 96, u 97, u 98, u 99, u 100, u 101, u 102, u 103, u 104, u 105, u 106, u 107, u 108, u 109, u 110, u 111, u 112, u 113, u 114, u 115, u 116, u 117, u 118, u 119, u 120, u 121, u 122, u 123, u 124, u 125, u 126, u 127, u 128, u 129, u 130, u 131, u 132, u 133, u 134, u 135, u 136, u 137, u 138, u 139, u 140, u 141, u 142, u 143, u 144, u 145, u 146, u 147, u 148, u 149, u 150, u 151, u 152, u 153, u 154, u 155, u 156, u 157, u 158, u 159, u 160, u 161, u 162, u 163, u 164, u 165, u 166, u 167, u 168, u 169, u 170, u 171, u 172, u 173, u 174, u 175, u 176, u 177, u 178, u 179, u 180, u 181, u 182, u 183, u 184, u 185, u 186, u 187, u 188, u 189, u 190, u 191, u 192, u 193, u 194, u 195, u 196, u 197, u 198, u 199, u 200, u 201, u 202, u 203, u 204, u 205, u 206, u 207, u 208, u 209, u 210, u 211, u 212, u 213, u 214, u 215, u 216, u 217, u 218, u 219, u 220, u 221, u 222, u 223, u 224, u 225, u 226, u 227, u 228, u 229, u 230, u 231, u 232, u 233, u 234, u 235, u 236, u 237, u 238, u 239, u 240, u 241, u 242, u 243, u 244, u 245, u 246, u 247, u 248, u 249, u 250, u 251, u 252, u 253, u 254, u 255, u 256, u 257, u 258, u 259, u 260, u 261, u 262, u 263, u 264, u 265, u 266, u 267, u 268, u 269, u 270, u 271, u 272, u 273, u 274, u 275, u 276, u 277, u 278, u 279, u 280, u 281, u 282, u 283, u 284, u 285, u 286, u 287, u 288, u 289, u 290, u 291, u 292, u 293, u 294, u 295, u 296, u 297, u 298, u 299, u 300, u 301, u 302, u 303, u 304, u 305, u 306, u 307, u 308, u 309, u 310, u 311, u 312, u 313, u 314, u 315, u 316, u 317, u 318, u 319, u 320, u 321, u 322, u 323, u 324, u 325, u 326, u 327, u 328, u 329, u 330, u 331, u 332, u 333, u 334, u 335, u 336, u 337, u 338, u 339, u 340, u 341, u 342, u 343, u 344, u 345, u 346, u 347, u 348, u 349, u 350, u 351, u 352, u 353, u 354, u 355, u 356, u 357, u 358, u 359, u 360, u 361, u 362, u 363, u 364, u 365, u 366, u 367, u 368, u 369, u 370, u 371, u 372, u 373, u 374, u 375, u 376, u 377, u 378, u 379, u 380, u 381, u 382, u 383, u 384, u 385, u 386, u 387, u 388, u 389, u 390, u 391, u 392, u 393, u 394, u 395, u 396, u 397, u 398, u 399, u 400, u 401, u 402, u 403, u 404, u 405, u 406, u 407, u 408, u 409, u 410, u 411, u 412, u 413, u 414, u 415, u 416, u 417, u 418, u 419, u 420, u 421, u 422, u 423, u 424, s425, s426, s427, u 428, u 429, u 430, u 431, u 432, u 433, u 434, u 435, u 436, u 437, u 438, u 439, u 440, u 441, u 442, u 443, u 444, u 445, u 446, u 447, u 448, u 449, u 450, u 451, u 452, u 453, u 454, u 455, u 456, u 457, u 458, u 459, u 460, u 461, u 462, u 463, u 464, u 465, u 466, u 467, u 468, u 469, u 470, u 471, u 472, u 473, u 474, u 475, u 476, u 477, u 478, u 479, u 480, u 481, u 482, u 483, u 484, u 485, u 486, u 487, u 488, u 489, u 490, u 491, u 492, u 493, u 494, u 495, u 496, u 497, u 498], []⟩

/-- what the loop's head holds -/
structure SlM (s0 s2 s3 s4 s19 s20 s425 s426 s427 : Value) (a : Act) : Prop where
  df : a.defers = []
  sz : a.tmps.size = 499
  h0 : a.tmps.getD 0 undef = s0
  h2 : a.tmps.getD 2 undef = s2
  h3 : a.tmps.getD 3 undef = s3
  h4 : a.tmps.getD 4 undef = s4
  h19 : a.tmps.getD 19 undef = s19
  h20 : a.tmps.getD 20 undef = s20
  h425 : a.tmps.getD 425 undef = s425
  h426 : a.tmps.getD 426 undef = s426
  h427 : a.tmps.getD 427 undef = s427

set_option maxRecDepth 100000 in
theorem SlM.frm {s0 s2 s3 s4 s19 s20 s425 s426 s427 : Value} {a : Act} (h : SlM s0 s2 s3 s4 s19 s20 s425 s426 s427 a) : ∃ u, a = frmM s0 s2 s3 s4 s19 s20 s425 s426 s427 u := by
  obtain ⟨F, df⟩ := a
  obtain ⟨rfl, hs, rfl, rfl, rfl, rfl, rfl, rfl, rfl, rfl, rfl⟩ := h
  refine ⟨fun i => F.getD i undef, ?_⟩
  have e := open_frame F
  rw [hs] at e
  unfold frmM
  exact congrArg (Act.mk · []) e

set_option maxRecDepth 100000 in
set_option maxHeartbeats 2000000 in
theorem loopM (Q0 : Exit → Act → World → Prop) (w : World) (b o n c : Nat) (xs : List UInt8) (hl : xs.length = n) (hn : n ≤ 8) (hc : ∀ (i : Nat) (x : UInt8), xs[i]? = some x → w.cell? ⟨b, o + i, none⟩ = some (.int .u8 (x.toNat : Int)))
    (s0 s2 s3 s4 s19 : Value) (A : Act) (hA : SlM s0 s2 s3 s4 s19 (.int .u64 18446744073709551615) (.slice (some ⟨b, o, none⟩) n c) (.int .i64 (n : Int)) (.int .i64 0) A)
    (hexit : ∀ a', SlM s0 s2 s3 s4 s19 (.int .u64 ((valM xs : Nat) : Int)) (.slice (some ⟨b, o, none⟩) n c) (.int .i64 (n : Int)) (.int .i64 (n : Int)) a' → Q0 (.exit 5) a' w) :
    Code.wp Tryd.prog (Code.loop bodyM) Q0 A w := by
  refine wp_loop (fun a' w' => w' = w ∧ ∃ j : Nat, j ≤ n ∧ SlM s0 s2 s3 s4 s19 (.int .u64 ((valM (xs.take j) : Nat) : Int)) (.slice (some ⟨b, o, none⟩) n c) (.int .i64 (n : Int)) (.int .i64 (j : Int)) a')
    (fun a' _ => n - (intOf (a'.tmps.getD 427 undef)).toNat) ⟨rfl, 0, by omega, hA⟩ ?_
  rintro a' w' ⟨rfl, j, hj, hs⟩
  have hmu : intOf (a'.tmps.getD 427 undef) = j := by rw [hs.h427]; rfl
  rw [hmu]
  clear hmu
  obtain ⟨u, rfl⟩ := hs.frm
  clear hs
  by_cases hlt : j < n
  · obtain ⟨x, hx⟩ : ∃ x, xs[j]? = some x := ⟨_, List.getElem?_eq_getElem (by omega)⟩
    have hcell := hc j x hx
    have hval : valM (xs.take (j + 1)) = valM (xs.take j) % 72057594037927936 * 256 + x.toNat := by rw [take_snoc hx, valM_snoc]
    have hy := valM_lt (xs.take j)
    have HX := Lib.hid hexit
    have HV := Lib.hid hval
    clear hexit hval hc hx hA
    generalize valM (xs.take j) = y at *
    have hr := x.toNat_lt
    generalize x.toNat = r at *
    have hor := or256 (y % 72057594037927936) r (by omega) hr
    rw [show ((y % 72057594037927936 : Nat) : Int) = (y : Int) % 72057594037927936 by omega] at hor
    have hml : IntKind.u64.wrap ((y : Int) * 256) = (y : Int) % 72057594037927936 * 256 := by rw [IntKind.wrap_u64]; omega
    conv => arg 2; whnf
    unfold frmM
    (repeat (first | go_values | go_skip | go_guarded | go_step | go_upon))
    refine ⟨⟨trivial, j + 1, by omega, rfl, rfl, rfl, rfl, rfl, rfl, rfl, ?_, rfl, rfl, rfl⟩, ?_⟩
    · rw [HV.out]
      show Value.int _ _ = Value.int _ _
      congr 1
      try omega
    · simp [intOf]; omega
  · obtain rfl : j = n := by omega
    rw [List.take_of_length_le (by omega)]
    have HX := Lib.hid hexit
    clear hexit hc hA
    generalize valM xs = y at *
    conv => arg 2; whnf
    unfold frmM
    (repeat (first | go_values | go_skip | go_guarded | go_step | go_upon))
    exact HX.out _ ⟨rfl, rfl, rfl, rfl, rfl, rfl, rfl, rfl, rfl, rfl, rfl⟩

noncomputable def bodyI : Code := (loopsIn body23).getD 2 .skip

set_option maxRecDepth 100000 in
/-- the frame at the loop's head -/
def frmI (s0 s2 s3 s4 s23 s24 s467 s468 s469 : Value) (u : Nat → Value) : Act := ⟨#[s0, u 1, s2, s3, s4, u 5, u 6, u 7, u 8, u 9, u 10, u 11, u 12, u 13, u 14, u 15, u 16, u 17, u 18, u 19, u 20, u 21, u 22, s23, s24, u 25, u 26, u 27, u 28, u 29, u 30, u 31, u 32, u 33, u 34, u 35, u 36, u 37, u 38, u 39, u 40, u 41, u 42, u 43, u 44, u 45, u 46, u 47, u 48, u 49, u 50, u 51, u 52, u 53, u 54, u 55, u 56, u 57, u 58, u 59, u 60, u 61, u 62, u 63, u 64, u 65, u 66, u 67, u 68, u 69, u 70, u 71, u 72, u 73, u 74, u 75, u 76, u 77, u 78, u 79, u 80, u 81, u 82, u 83, u 84, u 85, u 86, u 87, u 88, u 89, u 90, u 91, u 92, u 93, u 94, u 95, u 96, u 97, u 98, u 99, u 100, u 101, u 102, u 103, u 104, u 105, u 106, u 107, u 108, u 109, u 110, u 111, u 112, u 113, u 114, u 115, u 116, u 117, u 118, u 119, u 120, u 121, u 122, u 123, u 124, u 125, u 126, u 127, u 128, u 129, u 130, u 131, u 132, u 133, u 134, u 135, u 136, u 137, u 138, u 139, u 140, u 141, u 142, u 143, u 144, u 145, u 146, u 147, u 148, u 149, u 150, u 151, u 152, u 153, u 154, u 155, u 156, u 157, u 158, u 159, u 160, u 161, u 162, u 163, u 164, u 165, u 166, u 167, u 168, u 169, u 170, u 171, u 172, u 173, u 174, u 175, u 176, u 177, u 178, u 179, u 180, u 181, u 182, u 183, u 184, u 185, u 186, u 187, u 188, u 189, u 190, u 191, u 192, u 193, u 194, u 195, u 196, u 197, u 198, u 199, u 200, u 201, u 202, u 203, u 204, u 205, u 206, u 207, u 208, u 209, u 210, u 211, u 212, u 213, u 214, u 215, u 216, u 217, u 218, u 219, u 220, u 221, u 222, u 223, u 224, u 225, u 226, u 227, u 228, u 229, u 230, u 231, u 232, u 233, u 234, u 235, u 236, u 237, u 238, u 239, u 240, u 241, u 242, u 243, u 244, u 245, u 246, u 247, u 248, u 249, u 250, u 251, u 252, u 253, u 254, u 255, u 256, u 257, u 258, u 259, u 260, u 261, u 262, u 263, u 264, u 265, u 266, u 267, u 268, u 269, u 270, u 271, u 272, u 273, u 274, u 275, u 276, u 277, u 278, u 279, u 280, u 281, u 282, u 283, u 284, u 285, u 286, u 287, u 288, u 289, u 290, u 291, u 292, u 293, u 294, u 295, u 296, u 297, u 298, u 299, u 300, u 301, u 302, u 303, u 304, u 305, u 306, u 307, u 308, u 309, u 310, u 311, u 312, u 313, u 314, u 315, u 316, u 317, u 318, u 319, u 320, u 321, u 322, u 323, u 324, u 325, u 326, u 327, u 328, u 329, u 330, u 331, u 332, u 333, u 334, u 335, u 336, u 337, u 338, u 339, u 340, u 341, u 342, u 343, u 344, u 345, u 346, u 347, u 348, u 349, u 350, u 351, u 352, u 353, u 354, u 355, u 356, u 357, u 358, u 359, u 360, u 361, u 362, u 363, u 364, u 365, u 366, u 367, u 368, u 369, u 370, u 371, u 372, u 373, u 374, u 375, u 376, u 377, u 378, u 379, u 380, u 381, u 382, u 383, u 384, u 385, u 386, u 387, u 388, u 389, u 390, u 391, u 392, u 393, u 394, u 395, u 396, u 397, u 398, u 399, u 400, u 401, u 402, u 403, u 404, u 405, u 406, u 407, u 408, u 409, u 410, u 411, u 412, u 413, u 414, u 415, u 416, u 417, u 418, u 419, u 420, u 421, u 422, u 423, u 424, u 425, u 426, u 427, u 428, u 429, u 430, u 431, u 432, u 433, u 434, u 435, u 436, u 437, u 438, u 439, u 440, u 441, u 442, u 443, u 444, u 445, u 446, u 447, u 448, u 449, u 450, u 451, u 452, u 453, u 454, u 455, u 456, u 457, u 458, u 459, u 460, u 461, u 462, u 463, u 464, u 465, u 466, s467, s468, s469, u 470, u 471, u 472, u 473, u 474, u 475, u 476, u 477, u 478, u 479, u 480, u 481, u 482, u 483, u 484, u 485, u 486, u 487, u 488, u 489, u 490, u 491, u 492, u 493, u 494, u 495, u 496, u 497, u 498], []⟩

/-- what the loop's head holds -/
structure SlI (s0 s2 s3 s4 s23 s24 s467 s468 s469 : Value) (a : Act) : Prop where
  df : a.defers = []
  sz : a.tmps.size = 499
  h0 : a.tmps.getD 0 undef = s0
  h2 : a.tmps.getD 2 undef = s2
  h3 : a.tmps.getD 3 undef = s3
  h4 : a.tmps.getD 4 undef = s4
  h23 : a.tmps.getD 23 undef = s23
  h24 : a.tmps.getD 24 undef = s24
  h467 : a.tmps.getD 467 undef = s467
  h468 : a.tmps.getD 468 undef = s468
  h469 : a.tmps.getD 469 undef = s469

set_option maxRecDepth 100000 in
theorem SlI.frm {s0 s2 s3 s4 s23 s24 s467 s468 s469 : Value} {a : Act} (h : SlI s0 s2 s3 s4 s23 s24 s467 s468 s469 a) : ∃ u, a = frmI s0 s2 s3 s4 s23 s24 s467 s468 s469 u := by
  obtain ⟨F, df⟩ := a
  obtain ⟨rfl, hs, rfl, rfl, rfl, rfl, rfl, rfl, rfl, rfl, rfl⟩ := h
  refine ⟨fun i => F.getD i undef, ?_⟩
  have e := open_frame F
  rw [hs] at e
  unfold frmI
  exact congrArg (Act.mk · []) e

set_option maxRecDepth 100000 in
set_option maxHeartbeats 2000000 in
theorem loopI (Q0 : Exit → Act → World → Prop) (w : World) (b o n c : Nat) (xs : List UInt8) (hl : xs.length = n) (hn : n ≤ 8) (h63 : valB xs < 9223372036854775808) (hc : ∀ (i : Nat) (x : UInt8), xs[i]? = some x → w.cell? ⟨b, o + i, none⟩ = some (.int .u8 (x.toNat : Int)))
    (s0 s2 s3 s4 s23 : Value) (A : Act) (hA : SlI s0 s2 s3 s4 s23 (.int .i64 0) (.slice (some ⟨b, o, none⟩) n c) (.int .i64 (n : Int)) (.int .i64 0) A)
    (hexit : ∀ a', SlI s0 s2 s3 s4 s23 (.int .i64 ((valB xs : Nat) : Int)) (.slice (some ⟨b, o, none⟩) n c) (.int .i64 (n : Int)) (.int .i64 (n : Int)) a' → Q0 (.exit 7) a' w) :
    Code.wp Tryd.prog (Code.loop bodyI) Q0 A w := by
  refine wp_loop (fun a' w' => w' = w ∧ ∃ j : Nat, j ≤ n ∧ SlI s0 s2 s3 s4 s23 (.int .i64 ((valB (xs.take j) : Nat) : Int)) (.slice (some ⟨b, o, none⟩) n c) (.int .i64 (n : Int)) (.int .i64 (j : Int)) a')
    (fun a' _ => n - (intOf (a'.tmps.getD 469 undef)).toNat) ⟨rfl, 0, by omega, hA⟩ ?_
  rintro a' w' ⟨rfl, j, hj, hs⟩
  have hmu : intOf (a'.tmps.getD 469 undef) = j := by rw [hs.h469]; rfl
  rw [hmu]
  clear hmu
  obtain ⟨u, rfl⟩ := hs.frm
  clear hs
  by_cases hlt : j < n
  · obtain ⟨x, hx⟩ : ∃ x, xs[j]? = some x := ⟨_, List.getElem?_eq_getElem (by omega)⟩
    have hcell := hc j x hx
    have hval : valB (xs.take (j + 1)) = valB (xs.take j) * 256 + x.toNat := by rw [take_snoc hx, valB_snoc]
    have hy : valB (xs.take j) * 256 + 255 < 9223372036854775808 := by
      have h1 := valB_take xs (j + 1)
      rw [hval] at h1
      omega
    have HX := Lib.hid hexit
    have HV := Lib.hid hval
    clear hexit hval hc hx hA
    generalize valB (xs.take j) = y at *
    have hr := x.toNat_lt
    generalize x.toNat = r at *
    have hor := or256i y r hy hr
    conv => arg 2; whnf
    unfold frmI
    (repeat (first | go_values | go_skip | go_guarded | go_step | go_upon))
    refine ⟨⟨trivial, j + 1, by omega, rfl, rfl, rfl, rfl, rfl, rfl, rfl, ?_, rfl, rfl, rfl⟩, ?_⟩
    · rw [HV.out]
      show Value.int _ _ = Value.int _ _
      congr 1
      try omega
    · simp [intOf]; omega
  · obtain rfl : j = n := by omega
    rw [List.take_of_length_le (by omega)]
    have HX := Lib.hid hexit
    clear hexit hc hA
    generalize valB xs = y at *
    conv => arg 2; whnf
    unfold frmI
    (repeat (first | go_values | go_skip | go_guarded | go_step | go_upon))
    exact HX.out _ ⟨rfl, rfl, rfl, rfl, rfl, rfl, rfl, rfl, rfl, rfl, rfl⟩

end Go.Proofs.YtaoonpncnahhgaaDoor
