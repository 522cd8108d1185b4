/-
  EncodeScalars: its loop.
-/
import Derived.Test.YtaoonpncnahhgaaDoorE1
namespace Go.Proofs.YtaoonpncnahhgaaDoor
open Go.RowKit

noncomputable def body20 : Code := ((Tryd.f20.body.bind firstLoop).getD .skip)

set_option maxRecDepth 100000 in
/-- the frame at the loop's head -/
def frm20 (s2 s3 s29 s30 s31 : Value) (u : Nat → Value) : Act := ⟨#[u 0, u 1, s2, s3, u 4, u 5, u 6, u 7, u 8, u 9, u 10, u 11, u 12, u 13, u 14, u 15, u 16, u 17, u 18, u 19, u 20, u 21, u 22, u 23, u 24, u 25, u 26, u 27, u 28, s29, s30, s31, u 32, u 33, u 34, u 35, u 36, u 37, u 38, u 39, u 40, u 41, u 42, u 43, u 44, u 45, u 46, u 47, u 48, u 49, u 50, u 51, u 52, u 53, u 54, u 55, u 56, u 57, u 58, u 59, u 60, u 61, u 62, u 63, u 64, u 65, u 66, u 67, u 68, u 69, u 70, u 71, u 72, u 73, u 74, u 75, u 76, u 77, u 78, u 79, u 80, u 81, u 82, u 83, u 84, u 85, u 86, u 87, u 88, u 89, u 90, u 91, u 92, u 93, u 94, u 95, u 96, u 97, u 98, u 99, u 100, u 101, u 102, u 103, u 104, u 105, u 106, u 107, u 108, u 109, u 110, u 111, u 112, u 113, u 114, u 115, u 116, u 117, u 118, u 119, u 120, u 121, u 122, u 123, u 124, u 125, u 126, u 127, u 128, u 129, u 130, u 131, u 132, u 133, u 134, u 135, u 136, u 137, u 138, u 139, u 140, u 141, u 142, u 143, u 144, u 145, u 146, u 147, u 148, u 149, u 150, u 151, u 152, u 153, u 154, u 155, u 156, u 157, u 158, u 159, u 160, u 161, u 162, u 163, u 164, u 165, u 166, u 167, u 168, u 169, u 170, u 171, u 172, u 173, u 174, u 175, u 176, u 177, u 178, u 179, u 180, u 181, u 182, u 183, u 184, u 185, u 186, u 187, u 188, u 189, u 190, u 191, u 192, u 193, u 194, u 195, u 196, u 197, u 198, u 199, u 200, u 201, u 202, u 203, u 204, u 205, u 206, u 207, u 208, u 209, u 210, u 211, u 212, u 213, u 214, u 215, u 216, u 217, u 218], []⟩

/-- what the loop's head holds -/
structure Sl20 (s2 s3 s29 s30 s31 : Value) (a : Act) : Prop where
  df : a.defers = []
  sz : a.tmps.size = 219
  h2 : a.tmps.getD 2 undef = s2
  h3 : a.tmps.getD 3 undef = s3
  h29 : a.tmps.getD 29 undef = s29
  h30 : a.tmps.getD 30 undef = s30
  h31 : a.tmps.getD 31 undef = s31

set_option maxRecDepth 100000 in
theorem Sl20.frm {s2 s3 s29 s30 s31 : Value} {a : Act} (h : Sl20 s2 s3 s29 s30 s31 a) : ∃ u, a = frm20 s2 s3 s29 s30 s31 u := by
  obtain ⟨F, df⟩ := a
  obtain ⟨rfl, hs, rfl, rfl, rfl, rfl, rfl⟩ := h
  refine ⟨fun i => F.getD i undef, ?_⟩
  have e := open_frame F
  rw [hs] at e
  unfold frm20
  exact congrArg (Act.mk · []) e

/-- a round of the loop over this value appends these bytes -/
def Round20 (x : AV) (enc : List UInt8) : Prop :=
  ∀ (K : Act → World → Prop) (Q0 : Exit → Act → World → Prop) (w : World) (b o m c k g : Nat) (z v : Value) (bs : List UInt8) (u : Nat → Value), k < m → m ≤ 2147483647 → bs.length ≤ 100000000 → b < g →
    w.cell? ⟨b, o + k, none⟩ = some z → avIs g w x z → Buf w g bs v →
    (∀ a' w' v', Sl20 (.pointer (some ⟨g, 0, none⟩)) .nilIface (.slice (some ⟨b, o, none⟩) m c) (.int .i64 m) (.int .i64 ((k + 1 : Nat) : Int)) a' → Buf w' g (bs ++ enc) v' → Below g w w' → K a' w') →
    Code.wp Tryd.prog body20 (Exit.then K Q0) (frm20 (.pointer (some ⟨g, 0, none⟩)) .nilIface (.slice (some ⟨b, o, none⟩) m c) (.int .i64 m) (.int .i64 k) u) w

set_option maxRecDepth 100000 in
set_option maxHeartbeats 2000000 in
theorem round20_small (n : Int) (h0 : 0 ≤ n) (h1 : n ≤ 170) : Round20 (.i64 n) [UInt8.ofNat (n + 85).toNat] := by
  intro K Q0 w b o m c k g z v bs u hk hm hl hbg hz hx hB hnext
  obtain rfl : z = .iface 2 (.int .i64 n) := hx
  have HN := Lib.hid hnext
  have HB := Lib.hid hB
  clear hnext hB
  conv => arg 2; whnf
  unfold frm20
  (repeat (first | go_values | go_skip | go_guarded | go_step | go_upon))
  refine (encInt_small n g bs v w h0 h1 hl HB.out).mono ?_
  rintro e w1 ⟨rfl, v', hb, hbl⟩
  have HB2 := Lib.hid hb
  have HBL := Lib.hid hbl
  clear hb hbl
  dsimp only
  (repeat (first | go_values | go_skip | go_guarded | go_step | go_upon))
  exact HN.out _ _ v' ⟨rfl, rfl, rfl, rfl, rfl, rfl, rfl⟩ HB2.out HBL.out

end Go.Proofs.YtaoonpncnahhgaaDoor
