/-
  The walk of the package's Collate.
-/
import Derived.Test.YtaoonpncnahhgaaDoorC5
namespace Go.Proofs.YtaoonpncnahhgaaDoor
open Go.RowKit

abbrev near (n : Int) : Nat := floatOfInt .f64 n

def cmpB (a b : Bool) : Int := match a, b with | false, true => -1 | true, false => 1 | _, _ => 0
/-- the package's order of two values that it has made alike -/
def cmpA : AV → AV → Int
  | .nil, .nil => 0
  | .nil, _ => -1
  | .bool _, .nil => 1
  | .bool a, .bool b => cmpB a b
  | .bool _, _ => -1
  | .i64 _, .nil => 1 | .i64 _, .bool _ => 1
  | .i64 a, .i64 b => cmpI a b | .i64 a, .u64 b => cmpI a b | .i64 a, .f64 b => ordF (near a) b | .i64 a, .c128 c d => ordC (near a) 0 c d
  | .i64 _, _ => -1
  | .u64 _, .nil => 1 | .u64 _, .bool _ => 1
  | .u64 a, .i64 b => cmpI a b | .u64 a, .u64 b => cmpI a b | .u64 a, .f64 b => ordF (near a) b | .u64 a, .c128 c d => ordC (near a) 0 c d
  | .u64 _, _ => -1
  | .f64 _, .nil => 1 | .f64 _, .bool _ => 1
  | .f64 a, .i64 b => ordF a (near b) | .f64 a, .u64 b => ordF a (near b) | .f64 a, .f64 b => ordF a b | .f64 a, .c128 c d => ordC a 0 c d
  | .f64 _, _ => -1
  | .c128 _ _, .nil => 1 | .c128 _ _, .bool _ => 1
  | .c128 a b, .i64 c => ordC a b (near c) 0 | .c128 a b, .u64 c => ordC a b (near c) 0 | .c128 a b, .f64 c => ordC a b c 0 | .c128 a b, .c128 c d => ordC a b c d
  | .c128 _ _, _ => -1
  | .byt xs, .byt ys => bytesCmp xs ys
  | .byt _, .str _ => -1
  | .byt _, _ => 1
  | .str xs, .str ys => bytesCmp xs ys
  | .str _, _ => 1
  | _, _ => 0


/-- the values that a collateType leaves -/
inductive IsCt : AV → Prop
  | nil : IsCt .nil
  | bool (b : Bool) : IsCt (.bool b)
  | i64 (n : Int) (h1 : -9223372036854775808 ≤ n) (h2 : n ≤ 9223372036854775807) : IsCt (.i64 n)
  | u64 (n : Nat) (h : n < 18446744073709551616) : IsCt (.u64 n)
  | f64 (n : Nat) : IsCt (.f64 n)
  | c128 (a b : Nat) : IsCt (.c128 a b)
  | byt (bs : List UInt8) : IsCt (.byt bs)
  | str (bs : List UInt8) : IsCt (.str bs)

theorem isCt {x : AV} (h : x.wf) : IsCt (ctOf x) := by
  cases x <;> simp only [AV.wf] at h <;> first
    | exact .nil | exact .bool _ | exact .f64 _ | exact .c128 _ _ | exact .byt _ | exact .str _
    | exact .i64 _ (by omega) (by omega)
    | exact .u64 _ (by omega)

/-- the order of two lists of values -/
def lexA : List AV → List AV → Int
  | [], [] => 0
  | [], _ :: _ => -1
  | _ :: _, [] => 1
  | x :: xs, y :: ys => if cmpA (ctOf x) (ctOf y) = 0 then lexA xs ys else cmpA (ctOf x) (ctOf y)

theorem lexA_drop {xs ys : List AV} {k : Nat} {x y : AV} (hx : xs[k]? = some x) (hy : ys[k]? = some y) :
    lexA (xs.drop k) (ys.drop k) = if cmpA (ctOf x) (ctOf y) = 0 then lexA (xs.drop (k + 1)) (ys.drop (k + 1)) else cmpA (ctOf x) (ctOf y) := by
  obtain ⟨l1, e1⟩ := List.getElem?_eq_some_iff.1 hx
  obtain ⟨l2, e2⟩ := List.getElem?_eq_some_iff.1 hy
  rw [List.drop_eq_getElem_cons l1, List.drop_eq_getElem_cons l2, e1, e2]
  rfl

/-- r times an order is an order -/
theorem wrap_order {r c : Int} (hr : r = 1 ∨ r = -1) (hc : c = 0 ∨ c = 1 ∨ c = -1) : IntKind.i64.wrap (c * r) = c * r := by
  rcases hr with rfl | rfl <;> rcases hc with rfl | rfl | rfl <;> rfl
theorem wrap_neg {r : Int} (hr : r = 1 ∨ r = -1) : IntKind.i64.wrap (-r) = -r := by
  rcases hr with rfl | rfl <;> rfl


/-- the first loop in a text of code -/
def firstLoop : Code → Option Code
  | .loop c => some c
  | .seq a b => match firstLoop a with
    | some c => some c
    | none => firstLoop b
  | .block _ c => firstLoop c
  | .scope c => firstLoop c
  | .cond _ a b => match firstLoop a with
    | some c => some c
    | none => firstLoop b
  | _ => none

noncomputable def body30 : Code := ((Tryd.f30.body.bind firstLoop).getD .skip)

set_option maxRecDepth 100000 in
/-- the frame at the loop's head -/
def frm (s0 s1 s6 s8 s9 s10 s95 s96 s97 : Value) (u : Nat → Value) : Act := ⟨#[s0, s1, .nilFunc, u 3, u 4, u 5, s6, u 7, s8, s9, s10, u 11, u 12, u 13, u 14, u 15, u 16, u 17, u 18, u 19, u 20, u 21, u 22, u 23, u 24, u 25, u 26, u 27, u 28, u 29, u 30, u 31, u 32, u 33, u 34, u 35, u 36, u 37, u 38, u 39, u 40, u 41, u 42, u 43, u 44, u 45, u 46, u 47, u 48, u 49, u 50, u 51, u 52, u 53, u 54, u 55, u 56, u 57, u 58, u 59, u 60, u 61, u 62, u 63, u 64, u 65, u 66, u 67, u 68, u 69, u 70, u 71, u 72, u 73, u 74, u 75, u 76, u 77, u 78, u 79, u 80, u 81, u 82, u 83, u 84, u 85, u 86, u 87, u 88, u 89, u 90, u 91, u 92, u 93, u 94, s95, s96, s97, u 98, u 99, u 100, u 101, u 102, u 103, u 104, u 105, u 106, u 107, u 108, u 109, u 110, u 111, u 112, u 113, u 114, u 115, u 116, u 117, u 118, u 119, u 120, u 121, u 122, u 123, u 124, u 125, u 126, u 127, u 128, u 129, u 130, u 131, u 132, u 133, u 134, u 135, u 136, u 137, u 138, u 139, u 140, u 141, u 142, u 143, u 144, u 145, u 146, u 147, u 148, u 149, u 150, u 151, u 152, u 153, u 154, u 155, u 156, u 157, u 158, u 159, u 160, u 161, u 162, u 163, u 164, u 165, u 166, u 167, u 168, u 169, u 170, u 171, u 172, u 173, u 174, u 175, u 176, u 177, u 178, u 179, u 180, u 181, u 182, u 183, u 184, u 185, u 186, u 187, u 188, u 189, u 190, u 191, u 192, u 193, u 194, u 195, u 196, u 197, u 198, u 199, u 200, u 201, u 202, u 203, u 204, u 205, u 206, u 207, u 208, u 209, u 210, u 211, u 212, u 213, u 214, u 215, u 216, u 217, u 218, u 219, u 220, u 221, u 222, u 223, u 224, u 225, u 226, u 227, u 228, u 229, u 230, u 231, u 232, u 233, u 234, u 235, u 236, u 237, u 238, u 239, u 240, u 241, u 242, u 243, u 244, u 245, u 246, u 247, u 248, u 249, u 250, u 251, u 252, u 253, u 254, u 255, u 256, u 257, u 258, u 259, u 260, u 261, u 262, u 263, u 264, u 265, u 266, u 267, u 268, u 269, u 270, u 271, u 272, u 273, u 274, u 275, u 276, u 277, u 278, u 279, u 280, u 281, u 282, u 283, u 284, u 285, u 286, u 287, u 288, u 289, u 290, u 291, u 292, u 293, u 294, u 295, u 296, u 297, u 298, u 299, u 300, u 301, u 302, u 303, u 304, u 305, u 306, u 307, u 308, u 309, u 310, u 311, u 312, u 313, u 314, u 315, u 316, u 317, u 318, u 319, u 320, u 321, u 322, u 323, u 324, u 325, u 326, u 327, u 328, u 329, u 330, u 331, u 332, u 333, u 334, u 335, u 336, u 337, u 338, u 339, u 340, u 341, u 342, u 343, u 344, u 345, u 346, u 347, u 348, u 349, u 350, u 351, u 352, u 353, u 354, u 355, u 356, u 357, u 358, u 359, u 360, u 361, u 362, u 363, u 364, u 365, u 366, u 367, u 368, u 369, u 370, u 371, u 372, u 373, u 374, u 375, u 376, u 377, u 378, u 379, u 380, u 381, u 382, u 383, u 384, u 385, u 386, u 387, u 388, u 389, u 390, u 391, u 392, u 393, u 394, u 395, u 396, u 397, u 398, u 399, u 400, u 401, u 402, u 403, u 404, u 405, u 406, u 407, u 408, u 409, u 410, u 411, u 412, u 413, u 414, u 415, u 416, u 417, u 418, u 419, u 420, u 421, u 422, u 423, u 424, u 425, u 426, u 427, u 428, u 429, u 430, u 431, u 432, u 433, u 434, u 435, u 436, u 437, u 438, u 439, u 440, u 441, u 442, u 443, u 444, u 445, u 446, u 447, u 448, u 449, u 450, u 451, u 452, u 453, u 454, u 455, u 456, u 457, u 458, u 459, u 460, u 461, u 462, u 463, u 464, u 465, u 466, u 467, u 468, u 469, u 470, u 471, u 472, u 473, u 474, u 475, u 476], []⟩

/-- what the loop's head holds -/
structure Sl (s0 s1 s6 s8 s9 s10 s95 s96 s97 : Value) (a : Act) : Prop where
  df : a.defers = []
  sz : a.tmps.size = 477
  h0 : a.tmps.getD 0 undef = s0
  h1 : a.tmps.getD 1 undef = s1
  h2 : a.tmps.getD 2 undef = .nilFunc
  h6 : a.tmps.getD 6 undef = s6
  h8 : a.tmps.getD 8 undef = s8
  h9 : a.tmps.getD 9 undef = s9
  h10 : a.tmps.getD 10 undef = s10
  h95 : a.tmps.getD 95 undef = s95
  h96 : a.tmps.getD 96 undef = s96
  h97 : a.tmps.getD 97 undef = s97

theorem open_frame (F : Array Value) : F = ((List.range F.size).map (fun i => F.getD i undef)).toArray := by
  apply Array.ext
  · simp
  · intro i h1 h2
    simp [Array.getD, h1]

set_option maxRecDepth 100000 in
theorem Sl.frm {s0 s1 s6 s8 s9 s10 s95 s96 s97 : Value} {a : Act} (h : Sl s0 s1 s6 s8 s9 s10 s95 s96 s97 a) : ∃ u, a = frm s0 s1 s6 s8 s9 s10 s95 s96 s97 u := by
  obtain ⟨F, df⟩ := a
  obtain ⟨rfl, hs, rfl, rfl, h2, rfl, rfl, rfl, rfl, rfl, rfl, rfl⟩ := h
  refine ⟨fun i => F.getD i undef, ?_⟩
  have e := open_frame F
  rw [hs] at e
  unfold YtaoonpncnahhgaaDoor.frm
  rw [← h2]
  exact congrArg (Act.mk · []) e


end Go.Proofs.YtaoonpncnahhgaaDoor
