/-
  The rounds of EncodeScalars over nil, bools and numbers.
-/
import Derived.Test.YtaoonpncnahhgaaDoorEa
import Derived.Test.YtaoonpncnahhgaaDoorE3
import Derived.Test.YtaoonpncnahhgaaDoorE1
import Derived.Lib.ConvBytes
namespace Go.Proofs.YtaoonpncnahhgaaDoor
open Go.RowKit

theorem encFloat3_any (u : Nat) (g : Nat) (bs : List UInt8) (v : Value) (W : World) (hu : u < 18446744073709551616) (hl : bs.length ≤ 700000000) (hB : Buf W g bs v) :
    Calls Tryd.prog 31 #[.float .f64 u, .pointer (some ⟨g, 0, none⟩)] W fun e w' => e = .returned (.tuple #[]) ∧ ∃ v', Buf w' g (bs ++ encF 3 u) v' ∧ Below g W w' := by
  have h1 := encFloat_any 3 u g bs v W (by omega) hu (by omega) hB
  rw [show (if revb 8 u = 0 then [UInt8.ofNat 3] else UInt8.ofNat (3 + nb (revb 8 u)) :: be (nb (revb 8 u)) (revb 8 u)) = encF 3 u from rfl] at h1
  have H1 := Lib.hid h1
  clear h1 hB
  go_enter Tryd.func31, Tryd.ntmps31
  (repeat (first | go_values | go_skip | go_guarded | go_step | go_upon))
  refine H1.out.mono ?_
  rintro e w1 ⟨rfl, v1, b1, hb1⟩
  have H2 := Lib.hid b1
  clear b1 H1
  dsimp only
  (repeat (first | go_values | go_skip | go_guarded | go_step | go_upon))
  go_end0
  exact ⟨rfl, v1, H2.out, hb1⟩

set_option maxRecDepth 100000 in
set_option maxHeartbeats 2000000 in
theorem round20_i8 (n : Int) (h0 : -128 ≤ n) (h1 : n ≤ 127) : Round20 (.i8 n) (encI n) := by
  intro K Q0 w b o m c k g z v bs u hk hm hl hbg hz hx hB hnext
  obtain rfl : z = .iface 83 (.int .i8 n) := hx
  have HN := Lib.hid hnext
  have HB := Lib.hid hB
  clear hnext hB
  conv => arg 2; whnf
  unfold frm20
  (repeat (first | go_values | go_skip | go_guarded | go_step | go_upon))
  refine (encInt_any n g bs v w (by omega) (by omega) hl HB.out).mono ?_
  rintro e w1 ⟨rfl, v', hb, hbl⟩
  have HB2 := Lib.hid hb
  have HBL := Lib.hid hbl
  clear hb hbl
  dsimp only
  (repeat (first | go_values | go_skip | go_guarded | go_step | go_upon))
  exact HN.out _ _ v' ⟨rfl, rfl, rfl, rfl, rfl, rfl, rfl⟩ HB2.out HBL.out

set_option maxRecDepth 100000 in
set_option maxHeartbeats 2000000 in
theorem round20_i16 (n : Int) (h0 : -32768 ≤ n) (h1 : n ≤ 32767) : Round20 (.i16 n) (encI n) := by
  intro K Q0 w b o m c k g z v bs u hk hm hl hbg hz hx hB hnext
  obtain rfl : z = .iface 85 (.int .i16 n) := hx
  have HN := Lib.hid hnext
  have HB := Lib.hid hB
  clear hnext hB
  conv => arg 2; whnf
  unfold frm20
  (repeat (first | go_values | go_skip | go_guarded | go_step | go_upon))
  refine (encInt_any n g bs v w (by omega) (by omega) hl HB.out).mono ?_
  rintro e w1 ⟨rfl, v', hb, hbl⟩
  have HB2 := Lib.hid hb
  have HBL := Lib.hid hbl
  clear hb hbl
  dsimp only
  (repeat (first | go_values | go_skip | go_guarded | go_step | go_upon))
  exact HN.out _ _ v' ⟨rfl, rfl, rfl, rfl, rfl, rfl, rfl⟩ HB2.out HBL.out

set_option maxRecDepth 100000 in
set_option maxHeartbeats 2000000 in
theorem round20_i32 (n : Int) (h0 : -2147483648 ≤ n) (h1 : n ≤ 2147483647) : Round20 (.i32 n) (encI n) := by
  intro K Q0 w b o m c k g z v bs u hk hm hl hbg hz hx hB hnext
  obtain rfl : z = .iface 21 (.int .i32 n) := hx
  have HN := Lib.hid hnext
  have HB := Lib.hid hB
  clear hnext hB
  conv => arg 2; whnf
  unfold frm20
  (repeat (first | go_values | go_skip | go_guarded | go_step | go_upon))
  refine (encInt_any n g bs v w (by omega) (by omega) hl HB.out).mono ?_
  rintro e w1 ⟨rfl, v', hb, hbl⟩
  have HB2 := Lib.hid hb
  have HBL := Lib.hid hbl
  clear hb hbl
  dsimp only
  (repeat (first | go_values | go_skip | go_guarded | go_step | go_upon))
  exact HN.out _ _ v' ⟨rfl, rfl, rfl, rfl, rfl, rfl, rfl⟩ HB2.out HBL.out

set_option maxRecDepth 100000 in
set_option maxHeartbeats 2000000 in
theorem round20_i64 (n : Int) (h0 : -9223372036854775808 ≤ n) (h1 : n ≤ 9223372036854775807) : Round20 (.i64 n) (encI n) := by
  intro K Q0 w b o m c k g z v bs u hk hm hl hbg hz hx hB hnext
  obtain rfl : z = .iface 2 (.int .i64 n) := hx
  have HN := Lib.hid hnext
  have HB := Lib.hid hB
  clear hnext hB
  conv => arg 2; whnf
  unfold frm20
  (repeat (first | go_values | go_skip | go_guarded | go_step | go_upon))
  refine (encInt_any n g bs v w (by omega) (by omega) hl HB.out).mono ?_
  rintro e w1 ⟨rfl, v', hb, hbl⟩
  have HB2 := Lib.hid hb
  have HBL := Lib.hid hbl
  clear hb hbl
  dsimp only
  (repeat (first | go_values | go_skip | go_guarded | go_step | go_upon))
  exact HN.out _ _ v' ⟨rfl, rfl, rfl, rfl, rfl, rfl, rfl⟩ HB2.out HBL.out

set_option maxRecDepth 100000 in
set_option maxHeartbeats 2000000 in
theorem round20_int (n : Int) (h0 : -9223372036854775808 ≤ n) (h1 : n ≤ 9223372036854775807) : Round20 (.int n) (encI n) := by
  intro K Q0 w b o m c k g z v bs u hk hm hl hbg hz hx hB hnext
  obtain rfl : z = .iface 3 (.int .i64 n) := hx
  have HN := Lib.hid hnext
  have HB := Lib.hid hB
  clear hnext hB
  conv => arg 2; whnf
  unfold frm20
  (repeat (first | go_values | go_skip | go_guarded | go_step | go_upon))
  refine (encInt_any n g bs v w (by omega) (by omega) hl HB.out).mono ?_
  rintro e w1 ⟨rfl, v', hb, hbl⟩
  have HB2 := Lib.hid hb
  have HBL := Lib.hid hbl
  clear hb hbl
  dsimp only
  (repeat (first | go_values | go_skip | go_guarded | go_step | go_upon))
  exact HN.out _ _ v' ⟨rfl, rfl, rfl, rfl, rfl, rfl, rfl⟩ HB2.out HBL.out

set_option maxRecDepth 100000 in
set_option maxHeartbeats 2000000 in
theorem round20_u8 (n : Nat) (h1 : n < 256) : Round20 (.u8 n) (UInt8.ofNat (60 + nb n) :: be (nb n) n) := by
  intro K Q0 w b o m c k g z v bs u hk hm hl hbg hz hx hB hnext
  obtain rfl : z = .iface 5 (.int .u8 (n : Int)) := hx
  have HN := Lib.hid hnext
  have HB := Lib.hid hB
  clear hnext hB
  conv => arg 2; whnf
  unfold frm20
  (repeat (first | go_values | go_skip | go_guarded | go_step | go_upon))
  refine (encUint_any n g bs v w (by omega) (by omega) HB.out).mono ?_
  rintro e w1 ⟨rfl, v', hb, hbl⟩
  have HB2 := Lib.hid hb
  have HBL := Lib.hid hbl
  clear hb hbl
  dsimp only
  (repeat (first | go_values | go_skip | go_guarded | go_step | go_upon))
  exact HN.out _ _ v' ⟨rfl, rfl, rfl, rfl, rfl, rfl, rfl⟩ HB2.out HBL.out

set_option maxRecDepth 100000 in
set_option maxHeartbeats 2000000 in
theorem round20_u16 (n : Nat) (h1 : n < 65536) : Round20 (.u16 n) (UInt8.ofNat (60 + nb n) :: be (nb n) n) := by
  intro K Q0 w b o m c k g z v bs u hk hm hl hbg hz hx hB hnext
  obtain rfl : z = .iface 86 (.int .u16 (n : Int)) := hx
  have HN := Lib.hid hnext
  have HB := Lib.hid hB
  clear hnext hB
  conv => arg 2; whnf
  unfold frm20
  (repeat (first | go_values | go_skip | go_guarded | go_step | go_upon))
  refine (encUint_any n g bs v w (by omega) (by omega) HB.out).mono ?_
  rintro e w1 ⟨rfl, v', hb, hbl⟩
  have HB2 := Lib.hid hb
  have HBL := Lib.hid hbl
  clear hb hbl
  dsimp only
  (repeat (first | go_values | go_skip | go_guarded | go_step | go_upon))
  exact HN.out _ _ v' ⟨rfl, rfl, rfl, rfl, rfl, rfl, rfl⟩ HB2.out HBL.out

set_option maxRecDepth 100000 in
set_option maxHeartbeats 2000000 in
theorem round20_u32 (n : Nat) (h1 : n < 4294967296) : Round20 (.u32 n) (UInt8.ofNat (60 + nb n) :: be (nb n) n) := by
  intro K Q0 w b o m c k g z v bs u hk hm hl hbg hz hx hB hnext
  obtain rfl : z = .iface 87 (.int .u32 (n : Int)) := hx
  have HN := Lib.hid hnext
  have HB := Lib.hid hB
  clear hnext hB
  conv => arg 2; whnf
  unfold frm20
  (repeat (first | go_values | go_skip | go_guarded | go_step | go_upon))
  refine (encUint_any n g bs v w (by omega) (by omega) HB.out).mono ?_
  rintro e w1 ⟨rfl, v', hb, hbl⟩
  have HB2 := Lib.hid hb
  have HBL := Lib.hid hbl
  clear hb hbl
  dsimp only
  (repeat (first | go_values | go_skip | go_guarded | go_step | go_upon))
  exact HN.out _ _ v' ⟨rfl, rfl, rfl, rfl, rfl, rfl, rfl⟩ HB2.out HBL.out

set_option maxRecDepth 100000 in
set_option maxHeartbeats 2000000 in
theorem round20_u64 (n : Nat) (h1 : n < 18446744073709551616) : Round20 (.u64 n) (UInt8.ofNat (60 + nb n) :: be (nb n) n) := by
  intro K Q0 w b o m c k g z v bs u hk hm hl hbg hz hx hB hnext
  obtain rfl : z = .iface 32 (.int .u64 (n : Int)) := hx
  have HN := Lib.hid hnext
  have HB := Lib.hid hB
  clear hnext hB
  conv => arg 2; whnf
  unfold frm20
  (repeat (first | go_values | go_skip | go_guarded | go_step | go_upon))
  refine (encUint_any n g bs v w (by omega) (by omega) HB.out).mono ?_
  rintro e w1 ⟨rfl, v', hb, hbl⟩
  have HB2 := Lib.hid hb
  have HBL := Lib.hid hbl
  clear hb hbl
  dsimp only
  (repeat (first | go_values | go_skip | go_guarded | go_step | go_upon))
  exact HN.out _ _ v' ⟨rfl, rfl, rfl, rfl, rfl, rfl, rfl⟩ HB2.out HBL.out

set_option maxRecDepth 100000 in
set_option maxHeartbeats 2000000 in
theorem round20_uint (n : Nat) (h1 : n < 18446744073709551616) : Round20 (.uint n) (UInt8.ofNat (60 + nb n) :: be (nb n) n) := by
  intro K Q0 w b o m c k g z v bs u hk hm hl hbg hz hx hB hnext
  obtain rfl : z = .iface 70 (.int .u64 (n : Int)) := hx
  have HN := Lib.hid hnext
  have HB := Lib.hid hB
  clear hnext hB
  conv => arg 2; whnf
  unfold frm20
  (repeat (first | go_values | go_skip | go_guarded | go_step | go_upon))
  refine (encUint_any n g bs v w (by omega) (by omega) HB.out).mono ?_
  rintro e w1 ⟨rfl, v', hb, hbl⟩
  have HB2 := Lib.hid hb
  have HBL := Lib.hid hbl
  clear hb hbl
  dsimp only
  (repeat (first | go_values | go_skip | go_guarded | go_step | go_upon))
  exact HN.out _ _ v' ⟨rfl, rfl, rfl, rfl, rfl, rfl, rfl⟩ HB2.out HBL.out

set_option maxRecDepth 100000 in
set_option maxHeartbeats 2000000 in
theorem round20_f64 (x : Nat) (h1 : x < 18446744073709551616) : Round20 (.f64 x) (encF 3 x) := by
  intro K Q0 w b o m c k g z v bs u hk hm hl hbg hz hx hB hnext
  obtain rfl : z = .iface 76 (.float .f64 x) := hx
  have HN := Lib.hid hnext
  have HB := Lib.hid hB
  clear hnext hB
  conv => arg 2; whnf
  unfold frm20
  (repeat (first | go_values | go_skip | go_guarded | go_step | go_upon))
  refine (encFloat3_any x g bs v w h1 (by omega) HB.out).mono ?_
  rintro e w1 ⟨rfl, v', hb, hbl⟩
  have HB2 := Lib.hid hb
  have HBL := Lib.hid hbl
  clear hb hbl
  dsimp only
  (repeat (first | go_values | go_skip | go_guarded | go_step | go_upon))
  exact HN.out _ _ v' ⟨rfl, rfl, rfl, rfl, rfl, rfl, rfl⟩ HB2.out HBL.out

set_option maxRecDepth 100000 in
set_option maxHeartbeats 2000000 in
theorem round20_f32 (x r : Nat) (hc : floatToFloatBits .f32 x .f64 = some r) (h1 : r < 18446744073709551616) : Round20 (.f32 x r) (encF 3 r) := by
  intro K Q0 w b o m c k g z v bs u hk hm hl hbg hz hx hB hnext
  obtain rfl : z = .iface 74 (.float .f32 x) := hx
  have HN := Lib.hid hnext
  have HB := Lib.hid hB
  clear hnext hB
  have hr := fun w => run_convert_float_float (P := Tryd.prog) w 74 76 .f32 .f64 x r (by rw [Tryd.underlying74]; rfl) Tryd.underlying76 hc
  clear hc
  conv => arg 2; whnf
  unfold frm20
  (repeat (first | go_values | go_skip | go_guarded | go_step | go_upon))
  refine (encFloat3_any r g bs v w h1 (by omega) HB.out).mono ?_
  rintro e w1 ⟨rfl, v', hb, hbl⟩
  have HB2 := Lib.hid hb
  have HBL := Lib.hid hbl
  clear hb hbl
  dsimp only
  (repeat (first | go_values | go_skip | go_guarded | go_step | go_upon))
  exact HN.out _ _ v' ⟨rfl, rfl, rfl, rfl, rfl, rfl, rfl⟩ HB2.out HBL.out

set_option maxRecDepth 100000 in
set_option maxHeartbeats 2000000 in
theorem round20_c128 (x y : Nat) (h1 : x < 18446744073709551616) (h2 : y < 18446744073709551616) : Round20 (.c128 x y) (encF 12 x ++ encF 12 y) := by
  intro K Q0 w b o m c k g z v bs u hk hm hl hbg hz hx hB hnext
  obtain rfl : z = .iface 80 (.complex .f64 x y) := hx
  have HN := Lib.hid hnext
  have HB := Lib.hid hB
  clear hnext hB
  conv => arg 2; whnf
  unfold frm20
  (repeat (first | go_values | go_skip | go_guarded | go_step | go_upon))
  refine (encComplex_any x y g bs v w h1 h2 (by omega) HB.out).mono ?_
  rintro e w1 ⟨rfl, v', hb, hbl⟩
  have HB2 := Lib.hid hb
  have HBL := Lib.hid hbl
  clear hb hbl
  dsimp only
  (repeat (first | go_values | go_skip | go_guarded | go_step | go_upon))
  exact HN.out _ _ v' ⟨rfl, rfl, rfl, rfl, rfl, rfl, rfl⟩ HB2.out HBL.out

set_option maxRecDepth 100000 in
set_option maxHeartbeats 2000000 in
theorem round20_c64 (x y r s : Nat) (hc : floatToFloatBits .f32 x .f64 = some r) (hd : floatToFloatBits .f32 y .f64 = some s) (h1 : r < 18446744073709551616) (h2 : s < 18446744073709551616) : Round20 (.c64 x y r s) (encF 12 r ++ encF 12 s) := by
  intro K Q0 w b o m c k g z v bs u hk hm hl hbg hz hx hB hnext
  obtain rfl : z = .iface 78 (.complex .f32 x y) := hx
  have HN := Lib.hid hnext
  have HB := Lib.hid hB
  clear hnext hB
  have hr := fun w => run_convert_complex (P := Tryd.prog) w 78 80 .f32 .f64 x y r s (by rw [Tryd.underlying78]; rfl) Tryd.underlying80 (by unfold cConvBits; rw [hc, hd]; rfl)
  clear hc hd
  conv => arg 2; whnf
  unfold frm20
  (repeat (first | go_values | go_skip | go_guarded | go_step | go_upon))
  refine (encComplex_any r s g bs v w h1 h2 (by omega) HB.out).mono ?_
  rintro e w1 ⟨rfl, v', hb, hbl⟩
  have HB2 := Lib.hid hb
  have HBL := Lib.hid hbl
  clear hb hbl
  dsimp only
  (repeat (first | go_values | go_skip | go_guarded | go_step | go_upon))
  exact HN.out _ _ v' ⟨rfl, rfl, rfl, rfl, rfl, rfl, rfl⟩ HB2.out HBL.out

set_option maxRecDepth 100000 in
set_option maxHeartbeats 2000000 in
theorem round20_nil : Round20 (.nil) [0] := by
  intro K Q0 w b o m c k g z v bs u hk hm hl hbg hz hx hB hnext
  obtain ⟨i0, hi, hz0, hz1, hz2⟩ := info_parts info5
  obtain rfl : z = .nilIface := hx
  have hcell := hB.cell
  have hc := (cells_at hcell).1
  have hgs : g < w.heap.size := by
    rcases Nat.lt_or_ge g w.heap.size with h | h
    · exact h
    · simp [Array.getElem?_eq_none h] at hcell
  have HN := Lib.hid hnext
  have HO := Lib.hid hB.own
  clear hnext hB
  conv => arg 2; whnf
  unfold frm20
  (repeat (first | (at_builtin; refine wpList_append_own _ rfl (.tmp 41) (.tmp 42) 27 rfl (g + 1) 5 i0 _ 1 1 Tryd.underlying27 hi hz0 hz1 hz2 rfl (by decide) _ bs.length (u8s bs) rfl ?own ⟨w.heap.size, 0, none⟩ 1 1 [_] rfl rfl (by exact fun j u hj => (cell_new w 5 _ j).trans hj) ?c2 ?c3 ?c4 ?c5 ?_) | go_values | go_skip | go_guarded | go_step | go_upon))
  case own => exact HO.out.alloc _
  case c2 => intro u hu; simp at hu; rcases hu with rfl; rfl
  case c3 => unfold maxLen; omega
  case c4 => omega
  case c5 => show g + 1 ≤ (w.alloc _).heap.size; simp; omega
  intro v' w2 hown hgrow _
  have hgw : w2.heap[g]? = some (.cells #[v] 27) := by
    rw [hgrow.block g (by simp; omega) (fun h => by have := (HO.out.lt g h.symm).1; omega), heap_alloc_old _ _ hgs]
    exact hcell
  obtain ⟨hc1, hf1⟩ := cells_at hgw
  obtain ⟨va, vc, rfl⟩ := ownsRow_slice hown
  have HOWN := Lib.hid hown
  have HG := Lib.hid hgrow
  clear hown hgrow hz
  (repeat (first | go_values | go_skip | go_guarded | go_step | go_upon))
  obtain ⟨b1, b2⟩ := Buf.grow (news := [0]) ⟨hcell, HO.out⟩ HOWN.out HG.out (by simp) (by simp [u8s])
  exact HN.out _ _ _ ⟨rfl, rfl, rfl, rfl, rfl, rfl, rfl⟩ b1 b2

set_option maxRecDepth 100000 in
set_option maxHeartbeats 2000000 in
theorem round20_false : Round20 (.bool false) [1] := by
  intro K Q0 w b o m c k g z v bs u hk hm hl hbg hz hx hB hnext
  obtain ⟨i0, hi, hz0, hz1, hz2⟩ := info_parts info5
  obtain rfl : z = .iface 4 (.bool false) := hx
  have hcell := hB.cell
  have hc := (cells_at hcell).1
  have hgs : g < w.heap.size := by
    rcases Nat.lt_or_ge g w.heap.size with h | h
    · exact h
    · simp [Array.getElem?_eq_none h] at hcell
  have HN := Lib.hid hnext
  have HO := Lib.hid hB.own
  clear hnext hB
  conv => arg 2; whnf
  unfold frm20
  (repeat (first | (at_builtin; refine wpList_append_own _ rfl (.tmp 50) (.tmp 51) 27 rfl (g + 1) 5 i0 _ 1 1 Tryd.underlying27 hi hz0 hz1 hz2 rfl (by decide) _ bs.length (u8s bs) rfl ?own ⟨w.heap.size, 0, none⟩ 1 1 [_] rfl rfl (by exact fun j u hj => (cell_new w 5 _ j).trans hj) ?c2 ?c3 ?c4 ?c5 ?_) | go_values | go_skip | go_guarded | go_step | go_upon))
  case own => exact HO.out.alloc _
  case c2 => intro u hu; simp at hu; rcases hu with rfl; rfl
  case c3 => unfold maxLen; omega
  case c4 => omega
  case c5 => show g + 1 ≤ (w.alloc _).heap.size; simp; omega
  intro v' w2 hown hgrow _
  have hgw : w2.heap[g]? = some (.cells #[v] 27) := by
    rw [hgrow.block g (by simp; omega) (fun h => by have := (HO.out.lt g h.symm).1; omega), heap_alloc_old _ _ hgs]
    exact hcell
  obtain ⟨hc1, hf1⟩ := cells_at hgw
  obtain ⟨va, vc, rfl⟩ := ownsRow_slice hown
  have HOWN := Lib.hid hown
  have HG := Lib.hid hgrow
  clear hown hgrow hz
  (repeat (first | go_values | go_skip | go_guarded | go_step | go_upon))
  obtain ⟨b1, b2⟩ := Buf.grow (news := [1]) ⟨hcell, HO.out⟩ HOWN.out HG.out (by simp) (by simp [u8s])
  exact HN.out _ _ _ ⟨rfl, rfl, rfl, rfl, rfl, rfl, rfl⟩ b1 b2

set_option maxRecDepth 100000 in
set_option maxHeartbeats 2000000 in
theorem round20_true : Round20 (.bool true) [2] := by
  intro K Q0 w b o m c k g z v bs u hk hm hl hbg hz hx hB hnext
  obtain ⟨i0, hi, hz0, hz1, hz2⟩ := info_parts info5
  obtain rfl : z = .iface 4 (.bool true) := hx
  have hcell := hB.cell
  have hc := (cells_at hcell).1
  have hgs : g < w.heap.size := by
    rcases Nat.lt_or_ge g w.heap.size with h | h
    · exact h
    · simp [Array.getElem?_eq_none h] at hcell
  have HN := Lib.hid hnext
  have HO := Lib.hid hB.own
  clear hnext hB
  conv => arg 2; whnf
  unfold frm20
  (repeat (first | (at_builtin; refine wpList_append_own _ rfl (.tmp 55) (.tmp 56) 27 rfl (g + 1) 5 i0 _ 1 1 Tryd.underlying27 hi hz0 hz1 hz2 rfl (by decide) _ bs.length (u8s bs) rfl ?own ⟨w.heap.size, 0, none⟩ 1 1 [_] rfl rfl (by exact fun j u hj => (cell_new w 5 _ j).trans hj) ?c2 ?c3 ?c4 ?c5 ?_) | go_values | go_skip | go_guarded | go_step | go_upon))
  case own => exact HO.out.alloc _
  case c2 => intro u hu; simp at hu; rcases hu with rfl; rfl
  case c3 => unfold maxLen; omega
  case c4 => omega
  case c5 => show g + 1 ≤ (w.alloc _).heap.size; simp; omega
  intro v' w2 hown hgrow _
  have hgw : w2.heap[g]? = some (.cells #[v] 27) := by
    rw [hgrow.block g (by simp; omega) (fun h => by have := (HO.out.lt g h.symm).1; omega), heap_alloc_old _ _ hgs]
    exact hcell
  obtain ⟨hc1, hf1⟩ := cells_at hgw
  obtain ⟨va, vc, rfl⟩ := ownsRow_slice hown
  have HOWN := Lib.hid hown
  have HG := Lib.hid hgrow
  clear hown hgrow hz
  (repeat (first | go_values | go_skip | go_guarded | go_step | go_upon))
  obtain ⟨b1, b2⟩ := Buf.grow (news := [2]) ⟨hcell, HO.out⟩ HOWN.out HG.out (by simp) (by simp [u8s])
  exact HN.out _ _ _ ⟨rfl, rfl, rfl, rfl, rfl, rfl, rfl⟩ b1 b2

end Go.Proofs.YtaoonpncnahhgaaDoor

namespace Go.Proofs.YtaoonpncnahhgaaDoor
open Go.RowKit

theorem u8s_app (xs ys : List UInt8) : u8s (xs ++ ys) = u8s xs ++ u8s ys := by unfold u8s; rw [List.map_append]

theorem Buf.lt {W : World} {g : Nat} {bs : List UInt8} {v : Value} (h : Buf W g bs v) : g < W.heap.size := by
  rcases Nat.lt_or_ge g W.heap.size with h' | h'
  · exact h'
  · have := h.cell
    simp [Array.getElem?_eq_none h'] at this

/-- behind an append of what lies in memory and a store into the variable -/
theorem Buf.grow2 {W W' w1 : World} {g : Nat} {bs news : List UInt8} {v v' : Value} {xs : List Value} {k : Nat} (h : Buf W g bs v) (hW : Below W.heap.size W W') (hown : w1.ownsRow (g + 1) 5 1 v' k xs) (hgrow : W'.grownBy w1 v.ownBlock)
    (hk : k = (bs ++ news).length) (hx : xs = u8s (bs ++ news)) : w1.heap[g]? = some (.cells #[v] 27) ∧ Buf (w1.setCell ⟨g, 0, none⟩ v') g (bs ++ news) v' ∧ Below g W (w1.setCell ⟨g, 0, none⟩ v') := by
  subst hk hx
  have hgs := h.lt
  have hne : ∀ k, k ≤ g → some k ≠ v.ownBlock := fun k hk h' => by have := (h.own.lt k h'.symm).1; omega
  have hold : ∀ k, k ≤ g → w1.heap[k]? = W.heap[k]? := fun k hk => by
    rw [hgrow.block k (by have := hW.size; omega) (hne k hk), hW.block k (by omega)]
  refine ⟨(hold g (Nat.le_refl _)).trans h.cell, ⟨?_, hown.kept (grownBy_setCell w1 g v') ?_⟩, ?_⟩
  · have := (hold g (Nat.le_refl _)).trans h.cell
    simp [World.setCell, Array.getElem?_modify, this]
  · exact .inr (fun e => by have := (hown.lt g e).1; omega)
  · exact ⟨hgrow.os.trans hW.os, hgrow.tape.trans hW.tape, hgrow.output.trans hW.output, by have := hgrow.size; have := hW.size; simp [World.setCell]; omega, fun k hk => by rw [Below.heap_setCell _ _ _ _ (by show k ≠ g; omega), hold k (by omega)]⟩

theorem run_append_zero {P : Program} (w : World) (t ty e : TypeId) (i : TypeInfo) (ht : P.underlying t = some (.slice e)) (hi : P.info? e = some i) (va : Option Addr) (vn vc : Nat) (hv : vn ≤ vc) (hn : va = none → vn = 0 ∧ vc = 0) (b : Option Addr) (c : Nat) :
    (Builtin.append_ #[t, t] ty #[.slice va vn vc, .slice b 0 c]).run P w = .ok (.slice va vn vc) w := by
  cases va with
  | none =>
    obtain ⟨rfl, rfl⟩ := hn rfl
    cases b <;> simp [Builtin.append_, run_underlying ht, sizeOf, typeInfo, hi, Builtin.lenOf, Builtin.firstCells, loadCells, loadCellsFrom]
  | some a =>
    cases b <;> simp [Builtin.append_, run_underlying ht, sizeOf, typeInfo, hi, Builtin.lenOf, Builtin.firstCells, loadCells, loadCellsFrom, storeCells, hv]

theorem wpList_append_buf {ops : Array Oper} {rest : List Oper} {o : Oper} {a : Act} {Q : Exit → Act → World → Prop} {W0 W : World} {g : Nat} {bs : List UInt8} {v : Value} (hgd : o.guard = none) (s x : Operand)
    (ho : o.op = .call { callee := .builtin .append, args := #[s, x], argTypes := #[27, 27] }) (hB : Buf W0 g bs v) (hb : Below W0.heap.size W0 W) (hs : a.eval s = v) (b : Option Addr) (m c : Nat) (hx : a.eval x = .slice b m c)
    (xs : List UInt8) (hr : rdB W.heap.size W b m xs) (hl : bs.length ≤ 200000000) (hl2 : m ≤ 200000000)
    (h : ∀ va k vc w1, w1.heap[g]? = some (.cells #[v] 27) → Buf (w1.setCell ⟨g, 0, none⟩ (.slice va k vc)) g (bs ++ xs) (.slice va k vc) → Below g W0 (w1.setCell ⟨g, 0, none⟩ (.slice va k vc)) →
      wpList Tryd.prog ops Q rest (a.put o.dst (.slice va k vc)) w1) : wpList Tryd.prog ops Q (o :: rest) a W := by
  obtain ⟨i0, hi, hz0, hz1, hz2⟩ := info_parts info5
  have hgs := hB.lt
  have hss := hb.size
  rcases hr.2 with h0 | ⟨bb, off, rfl, hlt, hc⟩
  · subst h0
    have hm : m = 0 := hr.1.symm
    subst hm
    obtain ⟨va, vc, rfl⟩ := ownsRow_slice hB.own
    have hvn : bs.length ≤ vc ∧ (va = none → bs.length = 0 ∧ vc = 0) := by
      rcases hB.own.2 with ⟨e1, e2⟩ | ⟨gg, cap, cur, e1, -, -, hnc, -⟩
      · simp only [Value.slice.injEq] at e1
        obtain ⟨rfl, -, rfl⟩ := e1
        exact ⟨by omega, fun _ => ⟨e2, rfl⟩⟩
      · simp only [Value.slice.injEq] at e1
        obtain ⟨rfl, -, rfl⟩ := e1
        exact ⟨hnc, fun e => by cases e⟩
    refine wpList_plain hgd fun K hK => ?_
    have hrun := run_append_zero (P := Tryd.prog) W 27 o.type 5 i0 Tryd.underlying27 hi va bs.length vc hvn.1 hvn.2 b c
    have hcell : W.heap[g]? = some (.cells #[.slice va bs.length vc] 27) := (hb.block g hgs).trans hB.cell
    have own' : W.ownsRow (g + 1) 5 1 (.slice va bs.length vc) bs.length (u8s bs) := ownsRow_below hB.own hb (Nat.le_refl _)
    unfold Oper.wp
    simp [execOp, ho, resolve, invoke, builtin, hs, hx, hrun, Result.andThen]
    refine hK _ _ (h va bs.length vc W hcell ⟨?_, ?_⟩ ?_)
    · simp [World.setCell, Array.getElem?_modify, hcell]
    · have := own'.kept (grownBy_setCell W g (.slice va bs.length vc)) (.inr (fun e => by have := (own'.lt g e).1; omega))
      simpa using this
    · exact (hb.mono (by omega)).trans ⟨rfl, rfl, rfl, by simp [World.setCell], fun k hk => Below.heap_setCell _ _ _ _ (by show k ≠ g; omega)⟩
  · refine wpList_append_own W hgd s x 27 ho (g + 1) 5 i0 _ 1 1 Tryd.underlying27 hi hz0 hz1 hz2 rfl (by decide) v bs.length (u8s bs) hs (ownsRow_below hB.own hb (Nat.le_refl _)) ⟨bb, off, none⟩ m c (u8s xs) hx (by simp [hr.1]) ?_ ?_ (by unfold maxLen; omega) (by omega) (by omega) ?_
    · intro j u hj
      unfold u8s at hj
      rw [List.getElem?_map] at hj
      cases hx' : xs[j]? with
      | none => rw [hx'] at hj; cases hj
      | some y =>
        rw [hx'] at hj
        simp only [Option.map_some, Option.some.injEq] at hj
        subst hj
        have : (⟨bb, off, none⟩ : Addr).add j = ⟨bb, off + j, none⟩ := by
          unfold Addr.add
          split
          · rename_i h; subst h; rfl
          · rfl
        rw [this]
        exact hc j y hx'
    · intro u hu
      obtain ⟨y, -, rfl⟩ := List.mem_map.1 hu
      rfl
    · intro v' w1 hown hgrow _
      obtain ⟨va, vc, rfl⟩ := ownsRow_slice hown
      obtain ⟨g1, g2, g3⟩ := Buf.grow2 (news := xs) hB hb hown hgrow (by rw [List.length_append, hr.1]) (u8s_app _ _).symm
      exact h va _ vc w1 g1 g2 g3

/-- a slice that was built -/
theorem rdB_new (W : World) (vals : List Value) (xs : List UInt8) (h : vals = u8s xs) : rdB (W.alloc (.cells vals.toArray 5)).heap.size (W.alloc (.cells vals.toArray 5)) (some ⟨W.heap.size, 0, none⟩) xs.length xs := by
  subst h
  refine ⟨rfl, .inr ⟨W.heap.size, 0, rfl, by simp, fun i x hx => ?_⟩⟩
  rw [(cells_at (heap_new W _)).1, Nat.zero_add]
  simp [u8s, hx]

theorem rdB_newAt (W : World) (B : Nat) (hB : B = W.heap.size) (vals : List Value) (xs : List UInt8) (h : vals = u8s xs) : rdB (W.alloc (.cells vals.toArray 5)).heap.size (W.alloc (.cells vals.toArray 5)) (some ⟨B, 0, none⟩) xs.length xs := by
  subst hB
  exact rdB_new W vals xs h

theorem size_setCell (W : World) (g : Nat) (v : Value) : W.heap.size = (W.setCell ⟨g, 0, none⟩ v).heap.size := by simp [World.setCell]

end Go.Proofs.YtaoonpncnahhgaaDoor

namespace Go.Proofs.YtaoonpncnahhgaaDoor
open Go.RowKit

theorem u8_of (n : Nat) (h : n < 256) : ((UInt8.ofNat n).toNat : Int) = n := by rw [UInt8.toNat_ofNat']; omega

theorem bytesWorld_below' (W : World) (e : TypeId) (t : ByteArray) : Below W.heap.size W (Lib.bytesWorld W e t) :=
  ⟨rfl, rfl, rfl, by rw [Lib.bytesWorld_size]; omega, fun k hk => Lib.bytesWorld_at_old W e t k hk⟩

theorem rdB_bytesWorld (W : World) (B : Nat) (hB : B = W.heap.size) (t : ByteArray) (n : Nat) (hn : t.size = n) (xs : List UInt8) (hx : t.data.toList = xs) :
    rdB (Lib.bytesWorld W 5 t).heap.size (Lib.bytesWorld W 5 t) (some ⟨B, 0, none⟩) n xs := by
  subst hB hn hx
  refine ⟨by simp, .inr ⟨W.heap.size, 0, rfl, by rw [Lib.bytesWorld_size]; omega, fun i x hi => ?_⟩⟩
  have hlt : i < t.size := by
    rcases Nat.lt_or_ge i t.data.toList.length with h | h
    · simpa using h
    · rw [List.getElem?_eq_none h] at hi; cases hi
  rw [Nat.zero_add, Lib.bytesWorld_cell W 5 t i hlt, List.getD_eq_getElem?_getD, hi]
  rfl

set_option maxRecDepth 100000 in
set_option maxHeartbeats 2000000 in
theorem round20_byt0 (xs : List UInt8) (h0 : xs.length ≤ 17) (h1 : 0 ≤ xs.length) : Round20 (.byt xs) (UInt8.ofNat (21 + xs.length) :: xs) := by
  intro K Q0 w b o m c k g z v bs u hk hm hl hbg hz hx hB hnext
  obtain ⟨ax, n, cx, rfl, hcx, hcm, hr⟩ := hx
  have hR := hr.1
  have hn : n = xs.length := hr.1.1.symm
  rw [← hn] at h0 h1
  have HN := Lib.hid hnext
  have HB := Lib.hid hB
  have hc := (cells_at hB.cell).1
  have HLN := Lib.hid hn
  clear hnext hB hn hr
  have HR := Lib.hid hR
  clear hR
  conv => arg 2; whnf
  unfold frm20
  (repeat (first | (at_builtin; refine wpList_append_buf rfl (.tmp 178) (.tmp 182) rfl HB.out ?bl1 rfl _ 1 _ rfl ([UInt8.ofNat (21 + n)]) ?rd1 (by first | omega | (simp [be_length]; omega)) (by omega) ?_) | go_values | go_skip | go_guarded | go_step | go_upon))
  case bl1 => exact below1 _ _
  case rd1 => exact rdB_newAt w _ (rfl) [_] [UInt8.ofNat (21 + n)] (by simp only [u8s, List.map_cons, List.map_nil]; rw [u8_of _ (by omega)]; first | done | rfl | simp)
  intro va1 k1 vc1 w1 hgw1 b1 e1
  obtain ⟨hc1, hf1⟩ := cells_at hgw1
  have HB1 := Lib.hid b1
  have hd1 := (cells_at b1.cell).1
  have BL1 := Lib.hid e1
  clear b1 e1 hgw1 hc
  (repeat (first | (at_builtin; refine wpList_append_buf rfl (.tmp 184) (.tmp 185) rfl HB1.out ?bl2 rfl _ n _ rfl (xs) ?rd2 (by first | omega | (simp; omega)) (by omega) ?_) | go_values | go_skip | go_guarded | go_step | go_upon))
  case bl2 => exact Below.refl _ _
  case rd2 => exact rdB_mono (HR.out.below BL1.out (Nat.le_refl _)) (Nat.le_of_lt HB1.out.lt)
  intro va2 k2 vc2 w2 hgw2 b2 e2
  obtain ⟨hc2, hf2⟩ := cells_at hgw2
  have HB2 := Lib.hid b2
  have hd2 := (cells_at b2.cell).1
  have BL2 := Lib.hid e2
  clear b2 e2 hgw2 hc1 hf1 hd1
  (repeat (first | go_values | go_skip | go_guarded | go_step | go_upon))
  have hfin := HB2.out
  rw [List.append_assoc, HLN.out] at hfin
  exact HN.out _ _ _ ⟨rfl, rfl, rfl, rfl, rfl, rfl, rfl⟩ hfin ((BL1.out).trans BL2.out)

set_option maxRecDepth 100000 in
set_option maxHeartbeats 2000000 in
theorem round20_byt1 (xs : List UInt8) (h0 : 18 ≤ xs.length) (h1 : xs.length ≤ 255) : Round20 (.byt xs) (39 :: UInt8.ofNat xs.length :: xs) := by
  intro K Q0 w b o m c k g z v bs u hk hm hl hbg hz hx hB hnext
  obtain ⟨ax, n, cx, rfl, hcx, hcm, hr⟩ := hx
  have hR := hr.1
  have hn : n = xs.length := hr.1.1.symm
  rw [← hn] at h0 h1
  have HN := Lib.hid hnext
  have HB := Lib.hid hB
  have hc := (cells_at hB.cell).1
  have HLN := Lib.hid hn
  clear hnext hB hn hr
  have HR := Lib.hid hR
  clear hR
  conv => arg 2; whnf
  unfold frm20
  (repeat (first | (at_builtin; refine wpList_append_buf rfl (.tmp 194) (.tmp 196) rfl HB.out ?bl1 rfl _ 1 _ rfl ([39]) ?rd1 (by first | omega | (simp [be_length]; omega)) (by omega) ?_) | go_values | go_skip | go_guarded | go_step | go_upon))
  case bl1 => exact below1 _ _
  case rd1 => exact rdB_newAt w _ (rfl) [_] [39] (rfl)
  intro va1 k1 vc1 w1 hgw1 b1 e1
  obtain ⟨hc1, hf1⟩ := cells_at hgw1
  have HB1 := Lib.hid b1
  have hd1 := (cells_at b1.cell).1
  have BL1 := Lib.hid e1
  clear b1 e1 hgw1 hc
  (repeat (first | (at_builtin; refine wpList_append_buf rfl (.tmp 200) (.tmp 203) rfl HB1.out ?bl2 rfl _ 1 _ rfl ([UInt8.ofNat n]) ?rd2 (by first | omega | (simp; omega)) (by omega) ?_) | go_values | go_skip | go_guarded | go_step | go_upon))
  case bl2 => exact below1 _ _
  case rd2 => exact rdB_newAt (w1.setCell ⟨g, 0, none⟩ (.slice va1 k1 vc1)) _ (size_setCell _ _ _) [_] [UInt8.ofNat n] (by simp only [u8s, List.map_cons, List.map_nil]; rw [u8_of _ (by omega)]; first | done | rfl | simp)
  intro va2 k2 vc2 w2 hgw2 b2 e2
  obtain ⟨hc2, hf2⟩ := cells_at hgw2
  have HB2 := Lib.hid b2
  have hd2 := (cells_at b2.cell).1
  have BL2 := Lib.hid e2
  clear b2 e2 hgw2 hc1 hf1 hd1
  (repeat (first | (at_builtin; refine wpList_append_buf rfl (.tmp 215) (.tmp 216) rfl HB2.out ?bl3 rfl _ n _ rfl (xs) ?rd3 (by first | omega | (simp; omega)) (by omega) ?_) | go_values | go_skip | go_guarded | go_step | go_upon))
  case bl3 => exact Below.refl _ _
  case rd3 => exact rdB_mono (HR.out.below (BL1.out.trans BL2.out) (Nat.le_refl _)) (Nat.le_of_lt HB2.out.lt)
  intro va3 k3 vc3 w3 hgw3 b3 e3
  obtain ⟨hc3, hf3⟩ := cells_at hgw3
  have HB3 := Lib.hid b3
  have hd3 := (cells_at b3.cell).1
  have BL3 := Lib.hid e3
  clear b3 e3 hgw3 hc2 hf2 hd2
  (repeat (first | go_values | go_skip | go_guarded | go_step | go_upon))
  have hfin := HB3.out
  rw [List.append_assoc, List.append_assoc, HLN.out] at hfin
  exact HN.out _ _ _ ⟨rfl, rfl, rfl, rfl, rfl, rfl, rfl⟩ hfin (((BL1.out).trans BL2.out).trans BL3.out)

set_option maxRecDepth 100000 in
set_option maxHeartbeats 2000000 in
theorem round20_byt2 (xs : List UInt8) (h0 : 256 ≤ xs.length) (h1 : xs.length ≤ 65536) : Round20 (.byt xs) (40 :: (be 2 ((xs.length : Int) - 1) ++ xs)) := by
  intro K Q0 w b o m c k g z v bs u hk hm hl hbg hz hx hB hnext
  obtain ⟨ax, n, cx, rfl, hcx, hcm, hr⟩ := hx
  have hR := hr.1
  have hn : n = xs.length := hr.1.1.symm
  rw [← hn] at h0 h1
  have HN := Lib.hid hnext
  have HB := Lib.hid hB
  have hc := (cells_at hB.cell).1
  have HLN := Lib.hid hn
  clear hnext hB hn hr
  have HR := Lib.hid hR
  clear hR
  conv => arg 2; whnf
  unfold frm20
  (repeat (first | (at_builtin; refine wpList_append_buf rfl (.tmp 194) (.tmp 196) rfl HB.out ?bl1 rfl _ 1 _ rfl ([40]) ?rd1 (by first | omega | (simp [be_length]; omega)) (by omega) ?_) | go_values | go_skip | go_guarded | go_step | go_upon))
  case bl1 => exact below1 _ _
  case rd1 => exact rdB_newAt w _ (rfl) [_] [40] (rfl)
  intro va1 k1 vc1 w1 hgw1 b1 e1
  obtain ⟨hc1, hf1⟩ := cells_at hgw1
  have HB1 := Lib.hid b1
  have hd1 := (cells_at b1.cell).1
  have BL1 := Lib.hid e1
  clear b1 e1 hgw1 hc
  (repeat (first | (at_builtin; refine wpList_append_buf rfl (.tmp 207) (.tmp 213) rfl HB1.out ?bl2 rfl _ 2 _ rfl (be 2 ((n : Int) - 1)) ?rd2 (by first | omega | (simp; omega)) (by omega) ?_) | go_values | go_skip | go_guarded | go_step | go_upon))
  case bl2 => exact below1 _ _
  case rd2 => exact rdB_newAt (w1.setCell ⟨g, 0, none⟩ (.slice va1 k1 vc1)) _ (size_setCell _ _ _) [_, _] (be 2 ((n : Int) - 1)) (by simp only [u8s, be, List.map_cons, List.map_nil, List.nil_append, List.cons_append, u8z, List.cons.injEq, Value.int.injEq, true_and, and_true]; omega)
  intro va2 k2 vc2 w2 hgw2 b2 e2
  obtain ⟨hc2, hf2⟩ := cells_at hgw2
  have HB2 := Lib.hid b2
  have hd2 := (cells_at b2.cell).1
  have BL2 := Lib.hid e2
  clear b2 e2 hgw2 hc1 hf1 hd1
  (repeat (first | (at_builtin; refine wpList_append_buf rfl (.tmp 215) (.tmp 216) rfl HB2.out ?bl3 rfl _ n _ rfl (xs) ?rd3 (by first | omega | (simp [be_length]; omega)) (by omega) ?_) | go_values | go_skip | go_guarded | go_step | go_upon))
  case bl3 => exact Below.refl _ _
  case rd3 => exact rdB_mono (HR.out.below (BL1.out.trans BL2.out) (Nat.le_refl _)) (Nat.le_of_lt HB2.out.lt)
  intro va3 k3 vc3 w3 hgw3 b3 e3
  obtain ⟨hc3, hf3⟩ := cells_at hgw3
  have HB3 := Lib.hid b3
  have hd3 := (cells_at b3.cell).1
  have BL3 := Lib.hid e3
  clear b3 e3 hgw3 hc2 hf2 hd2
  (repeat (first | go_values | go_skip | go_guarded | go_step | go_upon))
  have hfin := HB3.out
  rw [List.append_assoc, List.append_assoc, HLN.out] at hfin
  exact HN.out _ _ _ ⟨rfl, rfl, rfl, rfl, rfl, rfl, rfl⟩ hfin (((BL1.out).trans BL2.out).trans BL3.out)

set_option maxRecDepth 100000 in
set_option maxHeartbeats 2000000 in
theorem round20_str0 (xs : List UInt8) (h0 : xs.length ≤ 17) (h1 : 0 ≤ xs.length) : Round20 (.str xs) (UInt8.ofNat (41 + xs.length) :: xs) := by
  intro K Q0 w b o m c k g z v bs u hk hm hl hbg hz hx hB hnext
  obtain rfl : z = .iface 9 (.string ⟨xs.toArray⟩) := hx
  obtain ⟨n, hn⟩ : ∃ n, n = xs.length := ⟨_, rfl⟩
  obtain ⟨t, ht⟩ : ∃ t : ByteArray, t = ⟨xs.toArray⟩ := ⟨_, rfl⟩
  have hts : t.size = n := by rw [ht, hn]; rfl
  rw [← ht] at hz
  have htx : t.data.toList = xs := by rw [ht]
  have HTX := Lib.hid htx
  have hcv := fun (W : World) => Lib.run_convert_string_bytes (P := Tryd.prog) W 9 27 5 t Tryd.underlying9 Tryd.underlying27 Tryd.underlying5
  rw [hts] at hcv
  clear htx ht
  rw [← hn] at h0 h1
  have HN := Lib.hid hnext
  have HB := Lib.hid hB
  have hc := (cells_at hB.cell).1
  have HLN := Lib.hid hn
  clear hnext hB hn 
  conv => arg 2; whnf
  unfold frm20
  (repeat (first | (at_builtin; refine wpList_append_buf rfl (.tmp 87) (.tmp 91) rfl HB.out ?bl1 rfl _ 1 _ rfl ([UInt8.ofNat (41 + n)]) ?rd1 (by first | omega | (simp [be_length]; omega)) (by omega) ?_) | go_values | go_skip | go_guarded | go_step | go_upon))
  case bl1 => exact below1 _ _
  case rd1 => exact rdB_newAt w _ (rfl) [_] [UInt8.ofNat (41 + n)] (by simp only [u8s, List.map_cons, List.map_nil]; rw [u8_of _ (by omega)]; first | done | rfl | simp)
  intro va1 k1 vc1 w1 hgw1 b1 e1
  obtain ⟨hc1, hf1⟩ := cells_at hgw1
  have HB1 := Lib.hid b1
  have hd1 := (cells_at b1.cell).1
  have BL1 := Lib.hid e1
  clear b1 e1 hgw1 hc
  (repeat (first | (at_builtin; refine wpList_append_buf rfl (.tmp 93) (.tmp 95) rfl HB1.out ?bl2 rfl _ n _ rfl (xs) ?rd2 (by first | omega | (simp; omega)) (by omega) ?_) | go_values | go_skip | go_guarded | go_step | go_upon))
  case bl2 => exact bytesWorld_below' _ _ _
  case rd2 => exact rdB_bytesWorld _ _ (size_setCell _ _ _) t n hts xs HTX.out
  intro va2 k2 vc2 w2 hgw2 b2 e2
  obtain ⟨hc2, hf2⟩ := cells_at hgw2
  have HB2 := Lib.hid b2
  have hd2 := (cells_at b2.cell).1
  have BL2 := Lib.hid e2
  clear b2 e2 hgw2 hc1 hf1 hd1
  (repeat (first | go_values | go_skip | go_guarded | go_step | go_upon))
  have hfin := HB2.out
  rw [List.append_assoc, HLN.out] at hfin
  exact HN.out _ _ _ ⟨rfl, rfl, rfl, rfl, rfl, rfl, rfl⟩ hfin ((BL1.out).trans BL2.out)

set_option maxRecDepth 100000 in
set_option maxHeartbeats 2000000 in
theorem round20_str1 (xs : List UInt8) (h0 : 18 ≤ xs.length) (h1 : xs.length ≤ 255) : Round20 (.str xs) (59 :: (be 1 (xs.length : Int) ++ xs)) := by
  intro K Q0 w b o m c k g z v bs u hk hm hl hbg hz hx hB hnext
  obtain rfl : z = .iface 9 (.string ⟨xs.toArray⟩) := hx
  obtain ⟨n, hn⟩ : ∃ n, n = xs.length := ⟨_, rfl⟩
  obtain ⟨t, ht⟩ : ∃ t : ByteArray, t = ⟨xs.toArray⟩ := ⟨_, rfl⟩
  have hts : t.size = n := by rw [ht, hn]; rfl
  rw [← ht] at hz
  have htx : t.data.toList = xs := by rw [ht]
  have HTX := Lib.hid htx
  have hcv := fun (W : World) => Lib.run_convert_string_bytes (P := Tryd.prog) W 9 27 5 t Tryd.underlying9 Tryd.underlying27 Tryd.underlying5
  rw [hts] at hcv
  clear htx ht
  rw [← hn] at h0 h1
  have HN := Lib.hid hnext
  have HB := Lib.hid hB
  have hc := (cells_at hB.cell).1
  have HLN := Lib.hid hn
  clear hnext hB hn 
  conv => arg 2; whnf
  unfold frm20
  (repeat (first | (at_builtin; refine wpList_append_buf rfl (.tmp 104) (.tmp 106) rfl HB.out ?bl1 rfl _ 1 _ rfl ([59]) ?rd1 (by first | omega | (simp [be_length]; omega)) (by omega) ?_) | go_values | go_skip | go_guarded | go_step | go_upon))
  case bl1 => exact below1 _ _
  case rd1 => exact rdB_newAt w _ (rfl) [_] [59] (rfl)
  intro va1 k1 vc1 w1 hgw1 b1 e1
  obtain ⟨hc1, hf1⟩ := cells_at hgw1
  have HB1 := Lib.hid b1
  have hd1 := (cells_at b1.cell).1
  have BL1 := Lib.hid e1
  clear b1 e1 hgw1 hc
  (repeat (first | go_values | go_skip | go_guarded | go_step | go_upon))
  refine (encU0_1 n g _ _ _ (by omega) (by omega) (by simp; omega) HB1.out).mono ?_
  rintro e w2 ⟨rfl, v2, b2, e2⟩
  obtain ⟨va2, vc2, hv2⟩ := ownsRow_slice b2.own
  obtain ⟨k2, hk2⟩ : ∃ k2, (bs ++ [59] ++ be 1 (n : Int)).length = k2 := ⟨_, rfl⟩
  rw [hk2] at hv2
  subst hv2
  clear hk2
  have HB2 := Lib.hid b2
  have hd2 := (cells_at b2.cell).1
  have BL2 := Lib.hid e2
  clear b2 e2 hd1
  dsimp only
  have hc2 := hd2
  have hf2 := (cells_at HB2.out.cell).2
  (repeat (first | (at_builtin; refine wpList_append_buf rfl (.tmp 111) (.tmp 113) rfl HB2.out ?bl3 rfl _ n _ rfl (xs) ?rd3 (by first | omega | (simp [be_length]; omega)) (by omega) ?_) | go_values | go_skip | go_guarded | go_step | go_upon))
  case bl3 => exact bytesWorld_below' _ _ _
  case rd3 => exact rdB_bytesWorld _ _ rfl t n hts xs HTX.out
  intro va3 k3 vc3 w3 hgw3 b3 e3
  obtain ⟨hc3, hf3⟩ := cells_at hgw3
  have HB3 := Lib.hid b3
  have hd3 := (cells_at b3.cell).1
  have BL3 := Lib.hid e3
  clear b3 e3 hgw3 hc2 hf2 hd2
  (repeat (first | go_values | go_skip | go_guarded | go_step | go_upon))
  have hfin := HB3.out
  rw [List.append_assoc, List.append_assoc, HLN.out] at hfin
  exact HN.out _ _ _ ⟨rfl, rfl, rfl, rfl, rfl, rfl, rfl⟩ hfin (((BL1.out).trans BL2.out).trans BL3.out)

set_option maxRecDepth 100000 in
set_option maxHeartbeats 2000000 in
theorem round20_str2 (xs : List UInt8) (h0 : 256 ≤ xs.length) (h1 : xs.length ≤ 65535) : Round20 (.str xs) (60 :: (be 2 (xs.length : Int) ++ xs)) := by
  intro K Q0 w b o m c k g z v bs u hk hm hl hbg hz hx hB hnext
  obtain rfl : z = .iface 9 (.string ⟨xs.toArray⟩) := hx
  obtain ⟨n, hn⟩ : ∃ n, n = xs.length := ⟨_, rfl⟩
  obtain ⟨t, ht⟩ : ∃ t : ByteArray, t = ⟨xs.toArray⟩ := ⟨_, rfl⟩
  have hts : t.size = n := by rw [ht, hn]; rfl
  rw [← ht] at hz
  have htx : t.data.toList = xs := by rw [ht]
  have HTX := Lib.hid htx
  have hcv := fun (W : World) => Lib.run_convert_string_bytes (P := Tryd.prog) W 9 27 5 t Tryd.underlying9 Tryd.underlying27 Tryd.underlying5
  rw [hts] at hcv
  clear htx ht
  rw [← hn] at h0 h1
  have HN := Lib.hid hnext
  have HB := Lib.hid hB
  have hc := (cells_at hB.cell).1
  have HLN := Lib.hid hn
  clear hnext hB hn 
  conv => arg 2; whnf
  unfold frm20
  (repeat (first | (at_builtin; refine wpList_append_buf rfl (.tmp 104) (.tmp 106) rfl HB.out ?bl1 rfl _ 1 _ rfl ([60]) ?rd1 (by first | omega | (simp [be_length]; omega)) (by omega) ?_) | go_values | go_skip | go_guarded | go_step | go_upon))
  case bl1 => exact below1 _ _
  case rd1 => exact rdB_newAt w _ (rfl) [_] [60] (rfl)
  intro va1 k1 vc1 w1 hgw1 b1 e1
  obtain ⟨hc1, hf1⟩ := cells_at hgw1
  have HB1 := Lib.hid b1
  have hd1 := (cells_at b1.cell).1
  have BL1 := Lib.hid e1
  clear b1 e1 hgw1 hc
  (repeat (first | go_values | go_skip | go_guarded | go_step | go_upon))
  refine (encU0_2 n g _ _ _ (by omega) (by omega) (by simp; omega) HB1.out).mono ?_
  rintro e w2 ⟨rfl, v2, b2, e2⟩
  obtain ⟨va2, vc2, hv2⟩ := ownsRow_slice b2.own
  obtain ⟨k2, hk2⟩ : ∃ k2, (bs ++ [60] ++ be 2 (n : Int)).length = k2 := ⟨_, rfl⟩
  rw [hk2] at hv2
  subst hv2
  clear hk2
  have HB2 := Lib.hid b2
  have hd2 := (cells_at b2.cell).1
  have BL2 := Lib.hid e2
  clear b2 e2 hd1
  dsimp only
  have hc2 := hd2
  have hf2 := (cells_at HB2.out.cell).2
  (repeat (first | (at_builtin; refine wpList_append_buf rfl (.tmp 111) (.tmp 113) rfl HB2.out ?bl3 rfl _ n _ rfl (xs) ?rd3 (by first | omega | (simp [be_length]; omega)) (by omega) ?_) | go_values | go_skip | go_guarded | go_step | go_upon))
  case bl3 => exact bytesWorld_below' _ _ _
  case rd3 => exact rdB_bytesWorld _ _ rfl t n hts xs HTX.out
  intro va3 k3 vc3 w3 hgw3 b3 e3
  obtain ⟨hc3, hf3⟩ := cells_at hgw3
  have HB3 := Lib.hid b3
  have hd3 := (cells_at b3.cell).1
  have BL3 := Lib.hid e3
  clear b3 e3 hgw3 hc2 hf2 hd2
  (repeat (first | go_values | go_skip | go_guarded | go_step | go_upon))
  have hfin := HB3.out
  rw [List.append_assoc, List.append_assoc, HLN.out] at hfin
  exact HN.out _ _ _ ⟨rfl, rfl, rfl, rfl, rfl, rfl, rfl⟩ hfin (((BL1.out).trans BL2.out).trans BL3.out)

end Go.Proofs.YtaoonpncnahhgaaDoor
