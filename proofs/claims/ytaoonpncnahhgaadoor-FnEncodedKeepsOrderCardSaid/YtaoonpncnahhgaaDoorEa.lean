/-
  encUint0.
-/
import Derived.Test.YtaoonpncnahhgaaDoorE1
import Derived.Lib.Tables
namespace Go.Proofs.YtaoonpncnahhgaaDoor
open Go.RowKit

/-- the last k bytes of a number, the greatest first -/
def be : Nat → Int → List UInt8
  | 0, _ => []
  | k + 1, n => be k (n / 256) ++ [UInt8.ofNat (n % 256).toNat]

theorem be_length : ∀ (k : Nat) (n : Int), (be k n).length = k
  | 0, _ => rfl
  | k + 1, n => by simp [be, be_length k]
theorem u8z (x : Int) : ((UInt8.ofNat (x % 256).toNat).toNat : Int) = x % 256 := by
  rw [UInt8.toNat_ofNat']; omega
theorem u8s_append (xs ys : List UInt8) : u8s (xs ++ ys) = u8s xs ++ u8s ys := by unfold u8s; rw [List.map_append]

set_option maxRecDepth 100000 in
set_option maxHeartbeats 4000000 in
theorem encU0_1 (n : Nat) (g : Nat) (bs : List UInt8) (v : Value) (W : World) (h0 : 0 ≤ n) (h1 : n < 256) (hl : bs.length ≤ 900000000) (hB : Buf W g bs v) :
    Calls Tryd.prog 34 #[.int .u64 (n : Int), .pointer (some ⟨g, 0, none⟩)] W fun e w' => e = .returned (.tuple #[]) ∧ ∃ v', Buf w' g (bs ++ (be 1 n)) v' ∧ Below g W w' := by
  obtain ⟨i0, hi, hz0, hz1, hz2⟩ := info_parts info5
  have hc := (cells_at hB.cell).1
  have hcell := hB.cell
  have hgs : g < W.heap.size := by
    rcases Nat.lt_or_ge g W.heap.size with h | h
    · exact h
    · simp [Array.getElem?_eq_none h] at hcell
  have HO := Lib.hid hB.own
  clear hB
  have g0 : decide ((n : Int) ≤ 255) = true := by simp; omega
  go_enter Tryd.func34, Tryd.ntmps34
  (repeat (first | (at_builtin; refine wpList_append_own _ rfl (.tmp 10) (.tmp 13) 27 rfl (g + 1) 5 i0 _ 1 1 Tryd.underlying27 hi hz0 hz1 hz2 rfl (by decide) _ bs.length (u8s bs) rfl ?own ⟨W.heap.size, 0, none⟩ 1 1 [_] rfl rfl (by exact fun j u hj => (cell_new W 5 _ j).trans hj) ?c2 ?c3 ?c4 ?c5 ?_) | go_values | go_skip | go_guarded | go_step | go_upon))
  case own => exact HO.out.alloc _
  case c2 => intro u hu; simp at hu; rcases hu with rfl <;> rfl
  case c3 => unfold maxLen; omega
  case c4 => omega
  case c5 => show g + 1 ≤ (W.alloc _).heap.size; simp; omega
  intro v' w1 hown hgrow _
  have hgw : w1.heap[g]? = some (.cells #[v] 27) := by
    rw [hgrow.block g (by simp; omega) (fun h => by have := (HO.out.lt g h.symm).1; omega), heap_alloc_old _ _ hgs]
    exact hcell
  obtain ⟨hc1, hf1⟩ := cells_at hgw
  obtain ⟨va, vc, rfl⟩ := ownsRow_slice hown
  have HOWN := Lib.hid hown
  have HG := Lib.hid hgrow
  clear hown hgrow
  (repeat (first | go_values | go_skip | go_guarded | go_step | go_upon))
  go_end0
  obtain ⟨b1, b2⟩ := Buf.grow (news := be 1 n) ⟨hcell, HO.out⟩ HOWN.out HG.out (by simp [be]) (by
    rw [u8s_append]
    congr 1
    simp only [u8s, be, List.map_cons, List.map_nil, List.nil_append, u8z, List.cons.injEq, Value.int.injEq, true_and, and_true]
    skip
    omega)
  exact ⟨rfl, _, b1, b2⟩

set_option maxRecDepth 100000 in
set_option maxHeartbeats 4000000 in
theorem encU0_2 (n : Nat) (g : Nat) (bs : List UInt8) (v : Value) (W : World) (h0 : 256 ≤ n) (h1 : n < 65536) (hl : bs.length ≤ 900000000) (hB : Buf W g bs v) :
    Calls Tryd.prog 34 #[.int .u64 (n : Int), .pointer (some ⟨g, 0, none⟩)] W fun e w' => e = .returned (.tuple #[]) ∧ ∃ v', Buf w' g (bs ++ (be 2 n)) v' ∧ Below g W w' := by
  obtain ⟨i0, hi, hz0, hz1, hz2⟩ := info_parts info5
  have hc := (cells_at hB.cell).1
  have hcell := hB.cell
  have hgs : g < W.heap.size := by
    rcases Nat.lt_or_ge g W.heap.size with h | h
    · exact h
    · simp [Array.getElem?_eq_none h] at hcell
  have HO := Lib.hid hB.own
  clear hB
  have g0 : decide ((n : Int) ≤ 255) = false := by simp; omega
  have g1 : decide ((n : Int) ≤ 65535) = true := by simp; omega
  go_enter Tryd.func34, Tryd.ntmps34
  (repeat (first | (at_builtin; refine wpList_append_own _ rfl (.tmp 22) (.tmp 28) 27 rfl (g + 1) 5 i0 _ 1 1 Tryd.underlying27 hi hz0 hz1 hz2 rfl (by decide) _ bs.length (u8s bs) rfl ?own ⟨W.heap.size, 0, none⟩ 2 2 [_, _] rfl rfl (by exact fun j u hj => (cell_new W 5 _ j).trans hj) ?c2 ?c3 ?c4 ?c5 ?_) | go_values | go_skip | go_guarded | go_step | go_upon))
  case own => exact HO.out.alloc _
  case c2 => intro u hu; simp at hu; rcases hu with rfl | rfl <;> rfl
  case c3 => unfold maxLen; omega
  case c4 => omega
  case c5 => show g + 1 ≤ (W.alloc _).heap.size; simp; omega
  intro v' w1 hown hgrow _
  have hgw : w1.heap[g]? = some (.cells #[v] 27) := by
    rw [hgrow.block g (by simp; omega) (fun h => by have := (HO.out.lt g h.symm).1; omega), heap_alloc_old _ _ hgs]
    exact hcell
  obtain ⟨hc1, hf1⟩ := cells_at hgw
  obtain ⟨va, vc, rfl⟩ := ownsRow_slice hown
  have HOWN := Lib.hid hown
  have HG := Lib.hid hgrow
  clear hown hgrow
  (repeat (first | go_values | go_skip | go_guarded | go_step | go_upon))
  go_end0
  obtain ⟨b1, b2⟩ := Buf.grow (news := be 2 n) ⟨hcell, HO.out⟩ HOWN.out HG.out (by simp [be]) (by
    rw [u8s_append]
    congr 1
    simp only [u8s, be, List.map_cons, List.map_nil, List.nil_append, List.cons_append, u8z, List.cons.injEq, Value.int.injEq, true_and, and_true]
    skip
    omega)
  exact ⟨rfl, _, b1, b2⟩

set_option maxRecDepth 100000 in
set_option maxHeartbeats 4000000 in
theorem encU0_3 (n : Nat) (g : Nat) (bs : List UInt8) (v : Value) (W : World) (h0 : 65536 ≤ n) (h1 : n < 16777216) (hl : bs.length ≤ 900000000) (hB : Buf W g bs v) :
    Calls Tryd.prog 34 #[.int .u64 (n : Int), .pointer (some ⟨g, 0, none⟩)] W fun e w' => e = .returned (.tuple #[]) ∧ ∃ v', Buf w' g (bs ++ (be 3 n)) v' ∧ Below g W w' := by
  obtain ⟨i0, hi, hz0, hz1, hz2⟩ := info_parts info5
  have hc := (cells_at hB.cell).1
  have hcell := hB.cell
  have hgs : g < W.heap.size := by
    rcases Nat.lt_or_ge g W.heap.size with h | h
    · exact h
    · simp [Array.getElem?_eq_none h] at hcell
  have HO := Lib.hid hB.own
  clear hB
  have g0 : decide ((n : Int) ≤ 255) = false := by simp; omega
  have g1 : decide ((n : Int) ≤ 65535) = false := by simp; omega
  have g2 : decide ((n : Int) ≤ 16777215) = true := by simp; omega
  go_enter Tryd.func34, Tryd.ntmps34
  (repeat (first | (at_builtin; refine wpList_append_own _ rfl (.tmp 37) (.tmp 46) 27 rfl (g + 1) 5 i0 _ 1 1 Tryd.underlying27 hi hz0 hz1 hz2 rfl (by decide) _ bs.length (u8s bs) rfl ?own ⟨W.heap.size, 0, none⟩ 3 3 [_, _, _] rfl rfl (by exact fun j u hj => (cell_new W 5 _ j).trans hj) ?c2 ?c3 ?c4 ?c5 ?_) | go_values | go_skip | go_guarded | go_step | go_upon))
  case own => exact HO.out.alloc _
  case c2 => intro u hu; simp at hu; rcases hu with rfl | rfl | rfl <;> rfl
  case c3 => unfold maxLen; omega
  case c4 => omega
  case c5 => show g + 1 ≤ (W.alloc _).heap.size; simp; omega
  intro v' w1 hown hgrow _
  have hgw : w1.heap[g]? = some (.cells #[v] 27) := by
    rw [hgrow.block g (by simp; omega) (fun h => by have := (HO.out.lt g h.symm).1; omega), heap_alloc_old _ _ hgs]
    exact hcell
  obtain ⟨hc1, hf1⟩ := cells_at hgw
  obtain ⟨va, vc, rfl⟩ := ownsRow_slice hown
  have HOWN := Lib.hid hown
  have HG := Lib.hid hgrow
  clear hown hgrow
  (repeat (first | go_values | go_skip | go_guarded | go_step | go_upon))
  go_end0
  obtain ⟨b1, b2⟩ := Buf.grow (news := be 3 n) ⟨hcell, HO.out⟩ HOWN.out HG.out (by simp [be]) (by
    rw [u8s_append]
    congr 1
    simp only [u8s, be, List.map_cons, List.map_nil, List.nil_append, List.cons_append, u8z, List.cons.injEq, Value.int.injEq, true_and, and_true]
    skip
    omega)
  exact ⟨rfl, _, b1, b2⟩

set_option maxRecDepth 100000 in
set_option maxHeartbeats 4000000 in
theorem encU0_4 (n : Nat) (g : Nat) (bs : List UInt8) (v : Value) (W : World) (h0 : 16777216 ≤ n) (h1 : n < 4294967296) (hl : bs.length ≤ 900000000) (hB : Buf W g bs v) :
    Calls Tryd.prog 34 #[.int .u64 (n : Int), .pointer (some ⟨g, 0, none⟩)] W fun e w' => e = .returned (.tuple #[]) ∧ ∃ v', Buf w' g (bs ++ (be 4 n)) v' ∧ Below g W w' := by
  obtain ⟨i0, hi, hz0, hz1, hz2⟩ := info_parts info5
  have hc := (cells_at hB.cell).1
  have hcell := hB.cell
  have hgs : g < W.heap.size := by
    rcases Nat.lt_or_ge g W.heap.size with h | h
    · exact h
    · simp [Array.getElem?_eq_none h] at hcell
  have HO := Lib.hid hB.own
  clear hB
  have g0 : decide ((n : Int) ≤ 255) = false := by simp; omega
  have g1 : decide ((n : Int) ≤ 65535) = false := by simp; omega
  have g2 : decide ((n : Int) ≤ 16777215) = false := by simp; omega
  have g3 : decide ((n : Int) ≤ 4294967295) = true := by simp; omega
  go_enter Tryd.func34, Tryd.ntmps34
  (repeat (first | (at_builtin; refine wpList_append_own _ rfl (.tmp 55) (.tmp 67) 27 rfl (g + 1) 5 i0 _ 1 1 Tryd.underlying27 hi hz0 hz1 hz2 rfl (by decide) _ bs.length (u8s bs) rfl ?own ⟨W.heap.size, 0, none⟩ 4 4 [_, _, _, _] rfl rfl (by exact fun j u hj => (cell_new W 5 _ j).trans hj) ?c2 ?c3 ?c4 ?c5 ?_) | go_values | go_skip | go_guarded | go_step | go_upon))
  case own => exact HO.out.alloc _
  case c2 => intro u hu; simp at hu; rcases hu with rfl | rfl | rfl | rfl <;> rfl
  case c3 => unfold maxLen; omega
  case c4 => omega
  case c5 => show g + 1 ≤ (W.alloc _).heap.size; simp; omega
  intro v' w1 hown hgrow _
  have hgw : w1.heap[g]? = some (.cells #[v] 27) := by
    rw [hgrow.block g (by simp; omega) (fun h => by have := (HO.out.lt g h.symm).1; omega), heap_alloc_old _ _ hgs]
    exact hcell
  obtain ⟨hc1, hf1⟩ := cells_at hgw
  obtain ⟨va, vc, rfl⟩ := ownsRow_slice hown
  have HOWN := Lib.hid hown
  have HG := Lib.hid hgrow
  clear hown hgrow
  (repeat (first | go_values | go_skip | go_guarded | go_step | go_upon))
  go_end0
  obtain ⟨b1, b2⟩ := Buf.grow (news := be 4 n) ⟨hcell, HO.out⟩ HOWN.out HG.out (by simp [be]) (by
    rw [u8s_append]
    congr 1
    simp only [u8s, be, List.map_cons, List.map_nil, List.nil_append, List.cons_append, u8z, List.cons.injEq, Value.int.injEq, true_and, and_true]
    skip
    omega)
  exact ⟨rfl, _, b1, b2⟩

set_option maxRecDepth 100000 in
set_option maxHeartbeats 4000000 in
theorem encU0_5 (n : Nat) (g : Nat) (bs : List UInt8) (v : Value) (W : World) (h0 : 4294967296 ≤ n) (h1 : n < 1099511627776) (hl : bs.length ≤ 900000000) (hB : Buf W g bs v) :
    Calls Tryd.prog 34 #[.int .u64 (n : Int), .pointer (some ⟨g, 0, none⟩)] W fun e w' => e = .returned (.tuple #[]) ∧ ∃ v', Buf w' g (bs ++ (be 5 n)) v' ∧ Below g W w' := by
  obtain ⟨i0, hi, hz0, hz1, hz2⟩ := info_parts info5
  have hc := (cells_at hB.cell).1
  have hcell := hB.cell
  have hgs : g < W.heap.size := by
    rcases Nat.lt_or_ge g W.heap.size with h | h
    · exact h
    · simp [Array.getElem?_eq_none h] at hcell
  have HO := Lib.hid hB.own
  clear hB
  have g0 : decide ((n : Int) ≤ 255) = false := by simp; omega
  have g1 : decide ((n : Int) ≤ 65535) = false := by simp; omega
  have g2 : decide ((n : Int) ≤ 16777215) = false := by simp; omega
  have g3 : decide ((n : Int) ≤ 4294967295) = false := by simp; omega
  have g4 : decide ((n : Int) ≤ 1099511627775) = true := by simp; omega
  go_enter Tryd.func34, Tryd.ntmps34
  (repeat (first | (at_builtin; refine wpList_append_own _ rfl (.tmp 76) (.tmp 91) 27 rfl (g + 1) 5 i0 _ 1 1 Tryd.underlying27 hi hz0 hz1 hz2 rfl (by decide) _ bs.length (u8s bs) rfl ?own ⟨W.heap.size, 0, none⟩ 5 5 [_, _, _, _, _] rfl rfl (by exact fun j u hj => (cell_new W 5 _ j).trans hj) ?c2 ?c3 ?c4 ?c5 ?_) | go_values | go_skip | go_guarded | go_step | go_upon))
  case own => exact HO.out.alloc _
  case c2 => intro u hu; simp at hu; rcases hu with rfl | rfl | rfl | rfl | rfl <;> rfl
  case c3 => unfold maxLen; omega
  case c4 => omega
  case c5 => show g + 1 ≤ (W.alloc _).heap.size; simp; omega
  intro v' w1 hown hgrow _
  have hgw : w1.heap[g]? = some (.cells #[v] 27) := by
    rw [hgrow.block g (by simp; omega) (fun h => by have := (HO.out.lt g h.symm).1; omega), heap_alloc_old _ _ hgs]
    exact hcell
  obtain ⟨hc1, hf1⟩ := cells_at hgw
  obtain ⟨va, vc, rfl⟩ := ownsRow_slice hown
  have HOWN := Lib.hid hown
  have HG := Lib.hid hgrow
  clear hown hgrow
  (repeat (first | go_values | go_skip | go_guarded | go_step | go_upon))
  go_end0
  obtain ⟨b1, b2⟩ := Buf.grow (news := be 5 n) ⟨hcell, HO.out⟩ HOWN.out HG.out (by simp [be]) (by
    rw [u8s_append]
    congr 1
    simp only [u8s, be, List.map_cons, List.map_nil, List.nil_append, List.cons_append, u8z, List.cons.injEq, Value.int.injEq, true_and, and_true]
    skip
    omega)
  exact ⟨rfl, _, b1, b2⟩

set_option maxRecDepth 100000 in
set_option maxHeartbeats 4000000 in
theorem encU0_6 (n : Nat) (g : Nat) (bs : List UInt8) (v : Value) (W : World) (h0 : 1099511627776 ≤ n) (h1 : n < 281474976710656) (hl : bs.length ≤ 900000000) (hB : Buf W g bs v) :
    Calls Tryd.prog 34 #[.int .u64 (n : Int), .pointer (some ⟨g, 0, none⟩)] W fun e w' => e = .returned (.tuple #[]) ∧ ∃ v', Buf w' g (bs ++ (be 6 n)) v' ∧ Below g W w' := by
  obtain ⟨i0, hi, hz0, hz1, hz2⟩ := info_parts info5
  have hc := (cells_at hB.cell).1
  have hcell := hB.cell
  have hgs : g < W.heap.size := by
    rcases Nat.lt_or_ge g W.heap.size with h | h
    · exact h
    · simp [Array.getElem?_eq_none h] at hcell
  have HO := Lib.hid hB.own
  clear hB
  have g0 : decide ((n : Int) ≤ 255) = false := by simp; omega
  have g1 : decide ((n : Int) ≤ 65535) = false := by simp; omega
  have g2 : decide ((n : Int) ≤ 16777215) = false := by simp; omega
  have g3 : decide ((n : Int) ≤ 4294967295) = false := by simp; omega
  have g4 : decide ((n : Int) ≤ 1099511627775) = false := by simp; omega
  have g5 : decide ((n : Int) ≤ 281474976710655) = true := by simp; omega
  go_enter Tryd.func34, Tryd.ntmps34
  (repeat (first | (at_builtin; refine wpList_append_own _ rfl (.tmp 100) (.tmp 118) 27 rfl (g + 1) 5 i0 _ 1 1 Tryd.underlying27 hi hz0 hz1 hz2 rfl (by decide) _ bs.length (u8s bs) rfl ?own ⟨W.heap.size, 0, none⟩ 6 6 [_, _, _, _, _, _] rfl rfl (by exact fun j u hj => (cell_new W 5 _ j).trans hj) ?c2 ?c3 ?c4 ?c5 ?_) | go_values | go_skip | go_guarded | go_step | go_upon))
  case own => exact HO.out.alloc _
  case c2 => intro u hu; simp at hu; rcases hu with rfl | rfl | rfl | rfl | rfl | rfl <;> rfl
  case c3 => unfold maxLen; omega
  case c4 => omega
  case c5 => show g + 1 ≤ (W.alloc _).heap.size; simp; omega
  intro v' w1 hown hgrow _
  have hgw : w1.heap[g]? = some (.cells #[v] 27) := by
    rw [hgrow.block g (by simp; omega) (fun h => by have := (HO.out.lt g h.symm).1; omega), heap_alloc_old _ _ hgs]
    exact hcell
  obtain ⟨hc1, hf1⟩ := cells_at hgw
  obtain ⟨va, vc, rfl⟩ := ownsRow_slice hown
  have HOWN := Lib.hid hown
  have HG := Lib.hid hgrow
  clear hown hgrow
  (repeat (first | go_values | go_skip | go_guarded | go_step | go_upon))
  go_end0
  obtain ⟨b1, b2⟩ := Buf.grow (news := be 6 n) ⟨hcell, HO.out⟩ HOWN.out HG.out (by simp [be]) (by
    rw [u8s_append]
    congr 1
    simp only [u8s, be, List.map_cons, List.map_nil, List.nil_append, List.cons_append, u8z, List.cons.injEq, Value.int.injEq, true_and, and_true]
    skip
    omega)
  exact ⟨rfl, _, b1, b2⟩

set_option maxRecDepth 100000 in
set_option maxHeartbeats 4000000 in
theorem encU0_7 (n : Nat) (g : Nat) (bs : List UInt8) (v : Value) (W : World) (h0 : 281474976710656 ≤ n) (h1 : n < 72057594037927936) (hl : bs.length ≤ 900000000) (hB : Buf W g bs v) :
    Calls Tryd.prog 34 #[.int .u64 (n : Int), .pointer (some ⟨g, 0, none⟩)] W fun e w' => e = .returned (.tuple #[]) ∧ ∃ v', Buf w' g (bs ++ (be 7 n)) v' ∧ Below g W w' := by
  obtain ⟨i0, hi, hz0, hz1, hz2⟩ := info_parts info5
  have hc := (cells_at hB.cell).1
  have hcell := hB.cell
  have hgs : g < W.heap.size := by
    rcases Nat.lt_or_ge g W.heap.size with h | h
    · exact h
    · simp [Array.getElem?_eq_none h] at hcell
  have HO := Lib.hid hB.own
  clear hB
  have g0 : decide ((n : Int) ≤ 255) = false := by simp; omega
  have g1 : decide ((n : Int) ≤ 65535) = false := by simp; omega
  have g2 : decide ((n : Int) ≤ 16777215) = false := by simp; omega
  have g3 : decide ((n : Int) ≤ 4294967295) = false := by simp; omega
  have g4 : decide ((n : Int) ≤ 1099511627775) = false := by simp; omega
  have g5 : decide ((n : Int) ≤ 281474976710655) = false := by simp; omega
  have g6 : decide ((n : Int) ≤ 72057594037927935) = true := by simp; omega
  go_enter Tryd.func34, Tryd.ntmps34
  (repeat (first | (at_builtin; refine wpList_append_own _ rfl (.tmp 127) (.tmp 148) 27 rfl (g + 1) 5 i0 _ 1 1 Tryd.underlying27 hi hz0 hz1 hz2 rfl (by decide) _ bs.length (u8s bs) rfl ?own ⟨W.heap.size, 0, none⟩ 7 7 [_, _, _, _, _, _, _] rfl rfl (by exact fun j u hj => (cell_new W 5 _ j).trans hj) ?c2 ?c3 ?c4 ?c5 ?_) | go_values | go_skip | go_guarded | go_step | go_upon))
  case own => exact HO.out.alloc _
  case c2 => intro u hu; simp at hu; rcases hu with rfl | rfl | rfl | rfl | rfl | rfl | rfl <;> rfl
  case c3 => unfold maxLen; omega
  case c4 => omega
  case c5 => show g + 1 ≤ (W.alloc _).heap.size; simp; omega
  intro v' w1 hown hgrow _
  have hgw : w1.heap[g]? = some (.cells #[v] 27) := by
    rw [hgrow.block g (by simp; omega) (fun h => by have := (HO.out.lt g h.symm).1; omega), heap_alloc_old _ _ hgs]
    exact hcell
  obtain ⟨hc1, hf1⟩ := cells_at hgw
  obtain ⟨va, vc, rfl⟩ := ownsRow_slice hown
  have HOWN := Lib.hid hown
  have HG := Lib.hid hgrow
  clear hown hgrow
  (repeat (first | go_values | go_skip | go_guarded | go_step | go_upon))
  go_end0
  obtain ⟨b1, b2⟩ := Buf.grow (news := be 7 n) ⟨hcell, HO.out⟩ HOWN.out HG.out (by simp [be]) (by
    rw [u8s_append]
    congr 1
    simp only [u8s, be, List.map_cons, List.map_nil, List.nil_append, List.cons_append, u8z, List.cons.injEq, Value.int.injEq, true_and, and_true]
    skip
    omega)
  exact ⟨rfl, _, b1, b2⟩

set_option maxRecDepth 100000 in
set_option maxHeartbeats 4000000 in
theorem encU0_8 (n : Nat) (g : Nat) (bs : List UInt8) (v : Value) (W : World) (h0 : 72057594037927936 ≤ n) (h1 : n < 18446744073709551616) (hl : bs.length ≤ 900000000) (hB : Buf W g bs v) :
    Calls Tryd.prog 34 #[.int .u64 (n : Int), .pointer (some ⟨g, 0, none⟩)] W fun e w' => e = .returned (.tuple #[]) ∧ ∃ v', Buf w' g (bs ++ (be 8 n)) v' ∧ Below g W w' := by
  obtain ⟨i0, hi, hz0, hz1, hz2⟩ := info_parts info5
  have hc := (cells_at hB.cell).1
  have hcell := hB.cell
  have hgs : g < W.heap.size := by
    rcases Nat.lt_or_ge g W.heap.size with h | h
    · exact h
    · simp [Array.getElem?_eq_none h] at hcell
  have HO := Lib.hid hB.own
  clear hB
  have g0 : decide ((n : Int) ≤ 255) = false := by simp; omega
  have g1 : decide ((n : Int) ≤ 65535) = false := by simp; omega
  have g2 : decide ((n : Int) ≤ 16777215) = false := by simp; omega
  have g3 : decide ((n : Int) ≤ 4294967295) = false := by simp; omega
  have g4 : decide ((n : Int) ≤ 1099511627775) = false := by simp; omega
  have g5 : decide ((n : Int) ≤ 281474976710655) = false := by simp; omega
  have g6 : decide ((n : Int) ≤ 72057594037927935) = false := by simp; omega
  have g7 : decide ((n : Int) ≤ 18446744073709551615) = true := by simp; omega
  go_enter Tryd.func34, Tryd.ntmps34
  (repeat (first | (at_builtin; refine wpList_append_own _ rfl (.tmp 157) (.tmp 181) 27 rfl (g + 1) 5 i0 _ 1 1 Tryd.underlying27 hi hz0 hz1 hz2 rfl (by decide) _ bs.length (u8s bs) rfl ?own ⟨W.heap.size, 0, none⟩ 8 8 [_, _, _, _, _, _, _, _] rfl rfl (by exact fun j u hj => (cell_new W 5 _ j).trans hj) ?c2 ?c3 ?c4 ?c5 ?_) | go_values | go_skip | go_guarded | go_step | go_upon))
  case own => exact HO.out.alloc _
  case c2 => intro u hu; simp at hu; rcases hu with rfl | rfl | rfl | rfl | rfl | rfl | rfl | rfl <;> rfl
  case c3 => unfold maxLen; omega
  case c4 => omega
  case c5 => show g + 1 ≤ (W.alloc _).heap.size; simp; omega
  intro v' w1 hown hgrow _
  have hgw : w1.heap[g]? = some (.cells #[v] 27) := by
    rw [hgrow.block g (by simp; omega) (fun h => by have := (HO.out.lt g h.symm).1; omega), heap_alloc_old _ _ hgs]
    exact hcell
  obtain ⟨hc1, hf1⟩ := cells_at hgw
  obtain ⟨va, vc, rfl⟩ := ownsRow_slice hown
  have HOWN := Lib.hid hown
  have HG := Lib.hid hgrow
  clear hown hgrow
  (repeat (first | go_values | go_skip | go_guarded | go_step | go_upon))
  go_end0
  obtain ⟨b1, b2⟩ := Buf.grow (news := be 8 n) ⟨hcell, HO.out⟩ HOWN.out HG.out (by simp [be]) (by
    rw [u8s_append]
    congr 1
    simp only [u8s, be, List.map_cons, List.map_nil, List.nil_append, List.cons_append, u8z, List.cons.injEq, Value.int.injEq, true_and, and_true]
    skip
    omega)
  exact ⟨rfl, _, b1, b2⟩

/-- how many bytes a number takes -/
def nb (n : Nat) : Nat := if n < 256 then 1 else if n < 65536 then 2 else if n < 16777216 then 3 else if n < 4294967296 then 4 else if n < 1099511627776 then 5 else if n < 281474976710656 then 6 else if n < 72057594037927936 then 7 else 8

theorem encUint0_any (n : Nat) (g : Nat) (bs : List UInt8) (v : Value) (W : World) (hn : n < 18446744073709551616) (hl : bs.length ≤ 900000000) (hB : Buf W g bs v) :
    Calls Tryd.prog 34 #[.int .u64 (n : Int), .pointer (some ⟨g, 0, none⟩)] W fun e w' => e = .returned (.tuple #[]) ∧ ∃ v', Buf w' g (bs ++ be (nb n) n) v' ∧ Below g W w' := by
  unfold nb
  split
  · exact encU0_1 n g bs v W (by omega) (by omega) hl hB
  split
  · exact encU0_2 n g bs v W (by omega) (by omega) hl hB
  split
  · exact encU0_3 n g bs v W (by omega) (by omega) hl hB
  split
  · exact encU0_4 n g bs v W (by omega) (by omega) hl hB
  split
  · exact encU0_5 n g bs v W (by omega) (by omega) hl hB
  split
  · exact encU0_6 n g bs v W (by omega) (by omega) hl hB
  split
  · exact encU0_7 n g bs v W (by omega) (by omega) hl hB
  exact encU0_8 n g bs v W (by omega) (by omega) hl hB

end Go.Proofs.YtaoonpncnahhgaaDoor

namespace Go.Proofs.YtaoonpncnahhgaaDoor
open Go.RowKit

set_option maxRecDepth 100000 in
set_option maxHeartbeats 4000000 in
theorem encIm_8 (n : Int) (g : Nat) (bs : List UInt8) (v : Value) (W : World) (_h0 : -9223372036854775808 ≤ n) (h1 : n < -72057594037927936) (hl : bs.length ≤ 100000000) (hB : Buf W g bs v) :
    Calls Tryd.prog 35 #[.int .i64 n, .pointer (some ⟨g, 0, none⟩)] W fun e w' => e = .returned (.tuple #[]) ∧ ∃ v', Buf w' g (bs ++ (69 :: be 8 n)) v' ∧ Below g W w' := by
  obtain ⟨i0, hi, hz0, hz1, hz2⟩ := info_parts info5
  have hc := (cells_at hB.cell).1
  have hcell := hB.cell
  have hgs : g < W.heap.size := by
    rcases Nat.lt_or_ge g W.heap.size with h | h
    · exact h
    · simp [Array.getElem?_eq_none h] at hcell
  have HO := Lib.hid hB.own
  clear hB
  have g0 : decide (n < -72057594037927936) = true := by simp; omega
  go_enter Tryd.func35, Tryd.ntmps35
  (repeat (first | (at_builtin; refine wpList_append_own _ rfl (.tmp 10) (.tmp 34) 27 rfl (g + 1) 5 i0 _ 1 1 Tryd.underlying27 hi hz0 hz1 hz2 rfl (by decide) _ bs.length (u8s bs) rfl ?own ⟨W.heap.size, 0, none⟩ 9 9 [_, _, _, _, _, _, _, _, _] rfl rfl (by exact fun j u hj => (cell_new W 5 _ j).trans hj) ?c2 ?c3 ?c4 ?c5 ?_) | go_values | go_skip | go_guarded | go_step | go_upon))
  case own => exact HO.out.alloc _
  case c2 => intro u hu; simp at hu; rcases hu with rfl | rfl | rfl | rfl | rfl | rfl | rfl | rfl | rfl <;> rfl
  case c3 => unfold maxLen; omega
  case c4 => omega
  case c5 => show g + 1 ≤ (W.alloc _).heap.size; simp; omega
  intro v' w1 hown hgrow _
  have hgw : w1.heap[g]? = some (.cells #[v] 27) := by
    rw [hgrow.block g (by simp; omega) (fun h => by have := (HO.out.lt g h.symm).1; omega), heap_alloc_old _ _ hgs]
    exact hcell
  obtain ⟨hc1, hf1⟩ := cells_at hgw
  obtain ⟨va, vc, rfl⟩ := ownsRow_slice hown
  have HOWN := Lib.hid hown
  have HG := Lib.hid hgrow
  clear hown hgrow
  (repeat (first | go_values | go_skip | go_guarded | go_step | go_upon))
  go_end0
  obtain ⟨b1, b2⟩ := Buf.grow (news := 69 :: be 8 n) ⟨hcell, HO.out⟩ HOWN.out HG.out (by simp [be]) (by
    rw [u8s_append]
    congr 1
    simp only [u8s, be, List.map_cons, List.map_nil, List.nil_append, List.cons_append, u8z, List.cons.injEq, Value.int.injEq, true_and, and_true]
    skip
    first | exact ⟨rfl, by omega⟩ | rfl | omega)
  exact ⟨rfl, _, b1, b2⟩

set_option maxRecDepth 100000 in
set_option maxHeartbeats 4000000 in
theorem encIm_7 (n : Int) (g : Nat) (bs : List UInt8) (v : Value) (W : World) (h0 : -72057594037927936 ≤ n) (h1 : n < -281474976710656) (hl : bs.length ≤ 100000000) (hB : Buf W g bs v) :
    Calls Tryd.prog 35 #[.int .i64 n, .pointer (some ⟨g, 0, none⟩)] W fun e w' => e = .returned (.tuple #[]) ∧ ∃ v', Buf w' g (bs ++ (70 :: be 7 n)) v' ∧ Below g W w' := by
  obtain ⟨i0, hi, hz0, hz1, hz2⟩ := info_parts info5
  have hc := (cells_at hB.cell).1
  have hcell := hB.cell
  have hgs : g < W.heap.size := by
    rcases Nat.lt_or_ge g W.heap.size with h | h
    · exact h
    · simp [Array.getElem?_eq_none h] at hcell
  have HO := Lib.hid hB.own
  clear hB
  have g0 : decide (n < -72057594037927936) = false := by simp; omega
  have g1 : decide (n < -281474976710656) = true := by simp; omega
  go_enter Tryd.func35, Tryd.ntmps35
  (repeat (first | (at_builtin; refine wpList_append_own _ rfl (.tmp 43) (.tmp 64) 27 rfl (g + 1) 5 i0 _ 1 1 Tryd.underlying27 hi hz0 hz1 hz2 rfl (by decide) _ bs.length (u8s bs) rfl ?own ⟨W.heap.size, 0, none⟩ 8 8 [_, _, _, _, _, _, _, _] rfl rfl (by exact fun j u hj => (cell_new W 5 _ j).trans hj) ?c2 ?c3 ?c4 ?c5 ?_) | go_values | go_skip | go_guarded | go_step | go_upon))
  case own => exact HO.out.alloc _
  case c2 => intro u hu; simp at hu; rcases hu with rfl | rfl | rfl | rfl | rfl | rfl | rfl | rfl <;> rfl
  case c3 => unfold maxLen; omega
  case c4 => omega
  case c5 => show g + 1 ≤ (W.alloc _).heap.size; simp; omega
  intro v' w1 hown hgrow _
  have hgw : w1.heap[g]? = some (.cells #[v] 27) := by
    rw [hgrow.block g (by simp; omega) (fun h => by have := (HO.out.lt g h.symm).1; omega), heap_alloc_old _ _ hgs]
    exact hcell
  obtain ⟨hc1, hf1⟩ := cells_at hgw
  obtain ⟨va, vc, rfl⟩ := ownsRow_slice hown
  have HOWN := Lib.hid hown
  have HG := Lib.hid hgrow
  clear hown hgrow
  (repeat (first | go_values | go_skip | go_guarded | go_step | go_upon))
  go_end0
  obtain ⟨b1, b2⟩ := Buf.grow (news := 70 :: be 7 n) ⟨hcell, HO.out⟩ HOWN.out HG.out (by simp [be]) (by
    rw [u8s_append]
    congr 1
    simp only [u8s, be, List.map_cons, List.map_nil, List.nil_append, List.cons_append, u8z, List.cons.injEq, Value.int.injEq, true_and, and_true]
    skip
    first | exact ⟨rfl, by omega⟩ | rfl | omega)
  exact ⟨rfl, _, b1, b2⟩

set_option maxRecDepth 100000 in
set_option maxHeartbeats 4000000 in
theorem encIm_6 (n : Int) (g : Nat) (bs : List UInt8) (v : Value) (W : World) (h0 : -281474976710656 ≤ n) (h1 : n < -1099511627776) (hl : bs.length ≤ 100000000) (hB : Buf W g bs v) :
    Calls Tryd.prog 35 #[.int .i64 n, .pointer (some ⟨g, 0, none⟩)] W fun e w' => e = .returned (.tuple #[]) ∧ ∃ v', Buf w' g (bs ++ (71 :: be 6 n)) v' ∧ Below g W w' := by
  obtain ⟨i0, hi, hz0, hz1, hz2⟩ := info_parts info5
  have hc := (cells_at hB.cell).1
  have hcell := hB.cell
  have hgs : g < W.heap.size := by
    rcases Nat.lt_or_ge g W.heap.size with h | h
    · exact h
    · simp [Array.getElem?_eq_none h] at hcell
  have HO := Lib.hid hB.own
  clear hB
  have g0 : decide (n < -72057594037927936) = false := by simp; omega
  have g1 : decide (n < -281474976710656) = false := by simp; omega
  have g2 : decide (n < -1099511627776) = true := by simp; omega
  go_enter Tryd.func35, Tryd.ntmps35
  (repeat (first | (at_builtin; refine wpList_append_own _ rfl (.tmp 73) (.tmp 91) 27 rfl (g + 1) 5 i0 _ 1 1 Tryd.underlying27 hi hz0 hz1 hz2 rfl (by decide) _ bs.length (u8s bs) rfl ?own ⟨W.heap.size, 0, none⟩ 7 7 [_, _, _, _, _, _, _] rfl rfl (by exact fun j u hj => (cell_new W 5 _ j).trans hj) ?c2 ?c3 ?c4 ?c5 ?_) | go_values | go_skip | go_guarded | go_step | go_upon))
  case own => exact HO.out.alloc _
  case c2 => intro u hu; simp at hu; rcases hu with rfl | rfl | rfl | rfl | rfl | rfl | rfl <;> rfl
  case c3 => unfold maxLen; omega
  case c4 => omega
  case c5 => show g + 1 ≤ (W.alloc _).heap.size; simp; omega
  intro v' w1 hown hgrow _
  have hgw : w1.heap[g]? = some (.cells #[v] 27) := by
    rw [hgrow.block g (by simp; omega) (fun h => by have := (HO.out.lt g h.symm).1; omega), heap_alloc_old _ _ hgs]
    exact hcell
  obtain ⟨hc1, hf1⟩ := cells_at hgw
  obtain ⟨va, vc, rfl⟩ := ownsRow_slice hown
  have HOWN := Lib.hid hown
  have HG := Lib.hid hgrow
  clear hown hgrow
  (repeat (first | go_values | go_skip | go_guarded | go_step | go_upon))
  go_end0
  obtain ⟨b1, b2⟩ := Buf.grow (news := 71 :: be 6 n) ⟨hcell, HO.out⟩ HOWN.out HG.out (by simp [be]) (by
    rw [u8s_append]
    congr 1
    simp only [u8s, be, List.map_cons, List.map_nil, List.nil_append, List.cons_append, u8z, List.cons.injEq, Value.int.injEq, true_and, and_true]
    skip
    first | exact ⟨rfl, by omega⟩ | rfl | omega)
  exact ⟨rfl, _, b1, b2⟩

set_option maxRecDepth 100000 in
set_option maxHeartbeats 4000000 in
theorem encIm_5 (n : Int) (g : Nat) (bs : List UInt8) (v : Value) (W : World) (h0 : -1099511627776 ≤ n) (h1 : n < -4294967296) (hl : bs.length ≤ 100000000) (hB : Buf W g bs v) :
    Calls Tryd.prog 35 #[.int .i64 n, .pointer (some ⟨g, 0, none⟩)] W fun e w' => e = .returned (.tuple #[]) ∧ ∃ v', Buf w' g (bs ++ (72 :: be 5 n)) v' ∧ Below g W w' := by
  obtain ⟨i0, hi, hz0, hz1, hz2⟩ := info_parts info5
  have hc := (cells_at hB.cell).1
  have hcell := hB.cell
  have hgs : g < W.heap.size := by
    rcases Nat.lt_or_ge g W.heap.size with h | h
    · exact h
    · simp [Array.getElem?_eq_none h] at hcell
  have HO := Lib.hid hB.own
  clear hB
  have g0 : decide (n < -72057594037927936) = false := by simp; omega
  have g1 : decide (n < -281474976710656) = false := by simp; omega
  have g2 : decide (n < -1099511627776) = false := by simp; omega
  have g3 : decide (n < -4294967296) = true := by simp; omega
  go_enter Tryd.func35, Tryd.ntmps35
  (repeat (first | (at_builtin; refine wpList_append_own _ rfl (.tmp 100) (.tmp 115) 27 rfl (g + 1) 5 i0 _ 1 1 Tryd.underlying27 hi hz0 hz1 hz2 rfl (by decide) _ bs.length (u8s bs) rfl ?own ⟨W.heap.size, 0, none⟩ 6 6 [_, _, _, _, _, _] rfl rfl (by exact fun j u hj => (cell_new W 5 _ j).trans hj) ?c2 ?c3 ?c4 ?c5 ?_) | go_values | go_skip | go_guarded | go_step | go_upon))
  case own => exact HO.out.alloc _
  case c2 => intro u hu; simp at hu; rcases hu with rfl | rfl | rfl | rfl | rfl | rfl <;> rfl
  case c3 => unfold maxLen; omega
  case c4 => omega
  case c5 => show g + 1 ≤ (W.alloc _).heap.size; simp; omega
  intro v' w1 hown hgrow _
  have hgw : w1.heap[g]? = some (.cells #[v] 27) := by
    rw [hgrow.block g (by simp; omega) (fun h => by have := (HO.out.lt g h.symm).1; omega), heap_alloc_old _ _ hgs]
    exact hcell
  obtain ⟨hc1, hf1⟩ := cells_at hgw
  obtain ⟨va, vc, rfl⟩ := ownsRow_slice hown
  have HOWN := Lib.hid hown
  have HG := Lib.hid hgrow
  clear hown hgrow
  (repeat (first | go_values | go_skip | go_guarded | go_step | go_upon))
  go_end0
  obtain ⟨b1, b2⟩ := Buf.grow (news := 72 :: be 5 n) ⟨hcell, HO.out⟩ HOWN.out HG.out (by simp [be]) (by
    rw [u8s_append]
    congr 1
    simp only [u8s, be, List.map_cons, List.map_nil, List.nil_append, List.cons_append, u8z, List.cons.injEq, Value.int.injEq, true_and, and_true]
    skip
    first | exact ⟨rfl, by omega⟩ | rfl | omega)
  exact ⟨rfl, _, b1, b2⟩

set_option maxRecDepth 100000 in
set_option maxHeartbeats 4000000 in
theorem encIm_4 (n : Int) (g : Nat) (bs : List UInt8) (v : Value) (W : World) (h0 : -4294967296 ≤ n) (h1 : n < -16777216) (hl : bs.length ≤ 100000000) (hB : Buf W g bs v) :
    Calls Tryd.prog 35 #[.int .i64 n, .pointer (some ⟨g, 0, none⟩)] W fun e w' => e = .returned (.tuple #[]) ∧ ∃ v', Buf w' g (bs ++ (73 :: be 4 n)) v' ∧ Below g W w' := by
  obtain ⟨i0, hi, hz0, hz1, hz2⟩ := info_parts info5
  have hc := (cells_at hB.cell).1
  have hcell := hB.cell
  have hgs : g < W.heap.size := by
    rcases Nat.lt_or_ge g W.heap.size with h | h
    · exact h
    · simp [Array.getElem?_eq_none h] at hcell
  have HO := Lib.hid hB.own
  clear hB
  have g0 : decide (n < -72057594037927936) = false := by simp; omega
  have g1 : decide (n < -281474976710656) = false := by simp; omega
  have g2 : decide (n < -1099511627776) = false := by simp; omega
  have g3 : decide (n < -4294967296) = false := by simp; omega
  have g4 : decide (n < -16777216) = true := by simp; omega
  go_enter Tryd.func35, Tryd.ntmps35
  (repeat (first | (at_builtin; refine wpList_append_own _ rfl (.tmp 124) (.tmp 136) 27 rfl (g + 1) 5 i0 _ 1 1 Tryd.underlying27 hi hz0 hz1 hz2 rfl (by decide) _ bs.length (u8s bs) rfl ?own ⟨W.heap.size, 0, none⟩ 5 5 [_, _, _, _, _] rfl rfl (by exact fun j u hj => (cell_new W 5 _ j).trans hj) ?c2 ?c3 ?c4 ?c5 ?_) | go_values | go_skip | go_guarded | go_step | go_upon))
  case own => exact HO.out.alloc _
  case c2 => intro u hu; simp at hu; rcases hu with rfl | rfl | rfl | rfl | rfl <;> rfl
  case c3 => unfold maxLen; omega
  case c4 => omega
  case c5 => show g + 1 ≤ (W.alloc _).heap.size; simp; omega
  intro v' w1 hown hgrow _
  have hgw : w1.heap[g]? = some (.cells #[v] 27) := by
    rw [hgrow.block g (by simp; omega) (fun h => by have := (HO.out.lt g h.symm).1; omega), heap_alloc_old _ _ hgs]
    exact hcell
  obtain ⟨hc1, hf1⟩ := cells_at hgw
  obtain ⟨va, vc, rfl⟩ := ownsRow_slice hown
  have HOWN := Lib.hid hown
  have HG := Lib.hid hgrow
  clear hown hgrow
  (repeat (first | go_values | go_skip | go_guarded | go_step | go_upon))
  go_end0
  obtain ⟨b1, b2⟩ := Buf.grow (news := 73 :: be 4 n) ⟨hcell, HO.out⟩ HOWN.out HG.out (by simp [be]) (by
    rw [u8s_append]
    congr 1
    simp only [u8s, be, List.map_cons, List.map_nil, List.nil_append, List.cons_append, u8z, List.cons.injEq, Value.int.injEq, true_and, and_true]
    skip
    first | exact ⟨rfl, by omega⟩ | rfl | omega)
  exact ⟨rfl, _, b1, b2⟩

set_option maxRecDepth 100000 in
set_option maxHeartbeats 4000000 in
theorem encIm_3 (n : Int) (g : Nat) (bs : List UInt8) (v : Value) (W : World) (h0 : -16777216 ≤ n) (h1 : n < -65536) (hl : bs.length ≤ 100000000) (hB : Buf W g bs v) :
    Calls Tryd.prog 35 #[.int .i64 n, .pointer (some ⟨g, 0, none⟩)] W fun e w' => e = .returned (.tuple #[]) ∧ ∃ v', Buf w' g (bs ++ (74 :: be 3 n)) v' ∧ Below g W w' := by
  obtain ⟨i0, hi, hz0, hz1, hz2⟩ := info_parts info5
  have hc := (cells_at hB.cell).1
  have hcell := hB.cell
  have hgs : g < W.heap.size := by
    rcases Nat.lt_or_ge g W.heap.size with h | h
    · exact h
    · simp [Array.getElem?_eq_none h] at hcell
  have HO := Lib.hid hB.own
  clear hB
  have g0 : decide (n < -72057594037927936) = false := by simp; omega
  have g1 : decide (n < -281474976710656) = false := by simp; omega
  have g2 : decide (n < -1099511627776) = false := by simp; omega
  have g3 : decide (n < -4294967296) = false := by simp; omega
  have g4 : decide (n < -16777216) = false := by simp; omega
  have g5 : decide (n < -65536) = true := by simp; omega
  go_enter Tryd.func35, Tryd.ntmps35
  (repeat (first | (at_builtin; refine wpList_append_own _ rfl (.tmp 145) (.tmp 154) 27 rfl (g + 1) 5 i0 _ 1 1 Tryd.underlying27 hi hz0 hz1 hz2 rfl (by decide) _ bs.length (u8s bs) rfl ?own ⟨W.heap.size, 0, none⟩ 4 4 [_, _, _, _] rfl rfl (by exact fun j u hj => (cell_new W 5 _ j).trans hj) ?c2 ?c3 ?c4 ?c5 ?_) | go_values | go_skip | go_guarded | go_step | go_upon))
  case own => exact HO.out.alloc _
  case c2 => intro u hu; simp at hu; rcases hu with rfl | rfl | rfl | rfl <;> rfl
  case c3 => unfold maxLen; omega
  case c4 => omega
  case c5 => show g + 1 ≤ (W.alloc _).heap.size; simp; omega
  intro v' w1 hown hgrow _
  have hgw : w1.heap[g]? = some (.cells #[v] 27) := by
    rw [hgrow.block g (by simp; omega) (fun h => by have := (HO.out.lt g h.symm).1; omega), heap_alloc_old _ _ hgs]
    exact hcell
  obtain ⟨hc1, hf1⟩ := cells_at hgw
  obtain ⟨va, vc, rfl⟩ := ownsRow_slice hown
  have HOWN := Lib.hid hown
  have HG := Lib.hid hgrow
  clear hown hgrow
  (repeat (first | go_values | go_skip | go_guarded | go_step | go_upon))
  go_end0
  obtain ⟨b1, b2⟩ := Buf.grow (news := 74 :: be 3 n) ⟨hcell, HO.out⟩ HOWN.out HG.out (by simp [be]) (by
    rw [u8s_append]
    congr 1
    simp only [u8s, be, List.map_cons, List.map_nil, List.nil_append, List.cons_append, u8z, List.cons.injEq, Value.int.injEq, true_and, and_true]
    skip
    first | exact ⟨rfl, by omega⟩ | rfl | omega)
  exact ⟨rfl, _, b1, b2⟩

set_option maxRecDepth 100000 in
set_option maxHeartbeats 4000000 in
theorem encIm_2 (n : Int) (g : Nat) (bs : List UInt8) (v : Value) (W : World) (h0 : -65536 ≤ n) (h1 : n < -256) (hl : bs.length ≤ 100000000) (hB : Buf W g bs v) :
    Calls Tryd.prog 35 #[.int .i64 n, .pointer (some ⟨g, 0, none⟩)] W fun e w' => e = .returned (.tuple #[]) ∧ ∃ v', Buf w' g (bs ++ (75 :: be 2 n)) v' ∧ Below g W w' := by
  obtain ⟨i0, hi, hz0, hz1, hz2⟩ := info_parts info5
  have hc := (cells_at hB.cell).1
  have hcell := hB.cell
  have hgs : g < W.heap.size := by
    rcases Nat.lt_or_ge g W.heap.size with h | h
    · exact h
    · simp [Array.getElem?_eq_none h] at hcell
  have HO := Lib.hid hB.own
  clear hB
  have g0 : decide (n < -72057594037927936) = false := by simp; omega
  have g1 : decide (n < -281474976710656) = false := by simp; omega
  have g2 : decide (n < -1099511627776) = false := by simp; omega
  have g3 : decide (n < -4294967296) = false := by simp; omega
  have g4 : decide (n < -16777216) = false := by simp; omega
  have g5 : decide (n < -65536) = false := by simp; omega
  have g6 : decide (n < -256) = true := by simp; omega
  go_enter Tryd.func35, Tryd.ntmps35
  (repeat (first | (at_builtin; refine wpList_append_own _ rfl (.tmp 163) (.tmp 169) 27 rfl (g + 1) 5 i0 _ 1 1 Tryd.underlying27 hi hz0 hz1 hz2 rfl (by decide) _ bs.length (u8s bs) rfl ?own ⟨W.heap.size, 0, none⟩ 3 3 [_, _, _] rfl rfl (by exact fun j u hj => (cell_new W 5 _ j).trans hj) ?c2 ?c3 ?c4 ?c5 ?_) | go_values | go_skip | go_guarded | go_step | go_upon))
  case own => exact HO.out.alloc _
  case c2 => intro u hu; simp at hu; rcases hu with rfl | rfl | rfl <;> rfl
  case c3 => unfold maxLen; omega
  case c4 => omega
  case c5 => show g + 1 ≤ (W.alloc _).heap.size; simp; omega
  intro v' w1 hown hgrow _
  have hgw : w1.heap[g]? = some (.cells #[v] 27) := by
    rw [hgrow.block g (by simp; omega) (fun h => by have := (HO.out.lt g h.symm).1; omega), heap_alloc_old _ _ hgs]
    exact hcell
  obtain ⟨hc1, hf1⟩ := cells_at hgw
  obtain ⟨va, vc, rfl⟩ := ownsRow_slice hown
  have HOWN := Lib.hid hown
  have HG := Lib.hid hgrow
  clear hown hgrow
  (repeat (first | go_values | go_skip | go_guarded | go_step | go_upon))
  go_end0
  obtain ⟨b1, b2⟩ := Buf.grow (news := 75 :: be 2 n) ⟨hcell, HO.out⟩ HOWN.out HG.out (by simp [be]) (by
    rw [u8s_append]
    congr 1
    simp only [u8s, be, List.map_cons, List.map_nil, List.nil_append, List.cons_append, u8z, List.cons.injEq, Value.int.injEq, true_and, and_true]
    skip
    first | exact ⟨rfl, by omega⟩ | rfl | omega)
  exact ⟨rfl, _, b1, b2⟩

set_option maxRecDepth 100000 in
set_option maxHeartbeats 4000000 in
theorem encIm_1 (n : Int) (g : Nat) (bs : List UInt8) (v : Value) (W : World) (h0 : -256 ≤ n) (h1 : n < 0) (hl : bs.length ≤ 100000000) (hB : Buf W g bs v) :
    Calls Tryd.prog 35 #[.int .i64 n, .pointer (some ⟨g, 0, none⟩)] W fun e w' => e = .returned (.tuple #[]) ∧ ∃ v', Buf w' g (bs ++ (76 :: be 1 n)) v' ∧ Below g W w' := by
  obtain ⟨i0, hi, hz0, hz1, hz2⟩ := info_parts info5
  have hc := (cells_at hB.cell).1
  have hcell := hB.cell
  have hgs : g < W.heap.size := by
    rcases Nat.lt_or_ge g W.heap.size with h | h
    · exact h
    · simp [Array.getElem?_eq_none h] at hcell
  have HO := Lib.hid hB.own
  clear hB
  have g0 : decide (n < -72057594037927936) = false := by simp; omega
  have g1 : decide (n < -281474976710656) = false := by simp; omega
  have g2 : decide (n < -1099511627776) = false := by simp; omega
  have g3 : decide (n < -4294967296) = false := by simp; omega
  have g4 : decide (n < -16777216) = false := by simp; omega
  have g5 : decide (n < -65536) = false := by simp; omega
  have g6 : decide (n < -256) = false := by simp; omega
  have g7 : decide (n < 0) = true := by simp; omega
  go_enter Tryd.func35, Tryd.ntmps35
  (repeat (first | (at_builtin; refine wpList_append_own _ rfl (.tmp 178) (.tmp 181) 27 rfl (g + 1) 5 i0 _ 1 1 Tryd.underlying27 hi hz0 hz1 hz2 rfl (by decide) _ bs.length (u8s bs) rfl ?own ⟨W.heap.size, 0, none⟩ 2 2 [_, _] rfl rfl (by exact fun j u hj => (cell_new W 5 _ j).trans hj) ?c2 ?c3 ?c4 ?c5 ?_) | go_values | go_skip | go_guarded | go_step | go_upon))
  case own => exact HO.out.alloc _
  case c2 => intro u hu; simp at hu; rcases hu with rfl | rfl <;> rfl
  case c3 => unfold maxLen; omega
  case c4 => omega
  case c5 => show g + 1 ≤ (W.alloc _).heap.size; simp; omega
  intro v' w1 hown hgrow _
  have hgw : w1.heap[g]? = some (.cells #[v] 27) := by
    rw [hgrow.block g (by simp; omega) (fun h => by have := (HO.out.lt g h.symm).1; omega), heap_alloc_old _ _ hgs]
    exact hcell
  obtain ⟨hc1, hf1⟩ := cells_at hgw
  obtain ⟨va, vc, rfl⟩ := ownsRow_slice hown
  have HOWN := Lib.hid hown
  have HG := Lib.hid hgrow
  clear hown hgrow
  (repeat (first | go_values | go_skip | go_guarded | go_step | go_upon))
  go_end0
  obtain ⟨b1, b2⟩ := Buf.grow (news := 76 :: be 1 n) ⟨hcell, HO.out⟩ HOWN.out HG.out (by simp [be]) (by
    rw [u8s_append]
    congr 1
    simp only [u8s, be, List.map_cons, List.map_nil, List.nil_append, u8z, List.cons.injEq, Value.int.injEq, true_and, and_true]
    skip
    first | exact ⟨rfl, by omega⟩ | rfl | omega)
  exact ⟨rfl, _, b1, b2⟩

set_option maxRecDepth 100000 in
set_option maxHeartbeats 4000000 in
theorem encIp_1 (n : Int) (g : Nat) (bs : List UInt8) (v : Value) (W : World) (h0 : 171 ≤ n) (h1 : n ≤ 255) (hl : bs.length ≤ 100000000) (hB : Buf W g bs v) :
    Calls Tryd.prog 35 #[.int .i64 n, .pointer (some ⟨g, 0, none⟩)] W fun e w' => e = .returned (.tuple #[]) ∧ ∃ v', Buf w' g (bs ++ (77 :: be 1 n)) v' ∧ Below g W w' := by
  obtain ⟨i0, hi, hz0, hz1, hz2⟩ := info_parts info5
  have hc := (cells_at hB.cell).1
  have hcell := hB.cell
  have hgs : g < W.heap.size := by
    rcases Nat.lt_or_ge g W.heap.size with h | h
    · exact h
    · simp [Array.getElem?_eq_none h] at hcell
  have HO := Lib.hid hB.own
  clear hB
  have g0 : decide (n < -72057594037927936) = false := by simp; omega
  have g1 : decide (n < -281474976710656) = false := by simp; omega
  have g2 : decide (n < -1099511627776) = false := by simp; omega
  have g3 : decide (n < -4294967296) = false := by simp; omega
  have g4 : decide (n < -16777216) = false := by simp; omega
  have g5 : decide (n < -65536) = false := by simp; omega
  have g6 : decide (n < -256) = false := by simp; omega
  have g7 : decide (n < 0) = false := by simp; omega
  have g8 : decide (n ≤ 170) = false := by simp; omega
  have g9 : decide (n ≤ 255) = true := by simp; omega
  go_enter Tryd.func35, Tryd.ntmps35
  (repeat (first | (at_builtin; refine wpList_append_own _ rfl (.tmp 203) (.tmp 206) 27 rfl (g + 1) 5 i0 _ 1 1 Tryd.underlying27 hi hz0 hz1 hz2 rfl (by decide) _ bs.length (u8s bs) rfl ?own ⟨W.heap.size, 0, none⟩ 2 2 [_, _] rfl rfl (by exact fun j u hj => (cell_new W 5 _ j).trans hj) ?c2 ?c3 ?c4 ?c5 ?_) | go_values | go_skip | go_guarded | go_step | go_upon))
  case own => exact HO.out.alloc _
  case c2 => intro u hu; simp at hu; rcases hu with rfl | rfl <;> rfl
  case c3 => unfold maxLen; omega
  case c4 => omega
  case c5 => show g + 1 ≤ (W.alloc _).heap.size; simp; omega
  intro v' w1 hown hgrow _
  have hgw : w1.heap[g]? = some (.cells #[v] 27) := by
    rw [hgrow.block g (by simp; omega) (fun h => by have := (HO.out.lt g h.symm).1; omega), heap_alloc_old _ _ hgs]
    exact hcell
  obtain ⟨hc1, hf1⟩ := cells_at hgw
  obtain ⟨va, vc, rfl⟩ := ownsRow_slice hown
  have HOWN := Lib.hid hown
  have HG := Lib.hid hgrow
  clear hown hgrow
  (repeat (first | go_values | go_skip | go_guarded | go_step | go_upon))
  go_end0
  obtain ⟨b1, b2⟩ := Buf.grow (news := 77 :: be 1 n) ⟨hcell, HO.out⟩ HOWN.out HG.out (by simp [be]) (by
    rw [u8s_append]
    congr 1
    simp only [u8s, be, List.map_cons, List.map_nil, List.nil_append, u8z, List.cons.injEq, Value.int.injEq, true_and, and_true]
    skip
    first | exact ⟨rfl, by omega⟩ | rfl | omega)
  exact ⟨rfl, _, b1, b2⟩

set_option maxRecDepth 100000 in
set_option maxHeartbeats 4000000 in
theorem encIp_2 (n : Int) (g : Nat) (bs : List UInt8) (v : Value) (W : World) (h0 : 256 ≤ n) (h1 : n ≤ 65535) (hl : bs.length ≤ 100000000) (hB : Buf W g bs v) :
    Calls Tryd.prog 35 #[.int .i64 n, .pointer (some ⟨g, 0, none⟩)] W fun e w' => e = .returned (.tuple #[]) ∧ ∃ v', Buf w' g (bs ++ (78 :: be 2 n)) v' ∧ Below g W w' := by
  obtain ⟨i0, hi, hz0, hz1, hz2⟩ := info_parts info5
  have hc := (cells_at hB.cell).1
  have hcell := hB.cell
  have hgs : g < W.heap.size := by
    rcases Nat.lt_or_ge g W.heap.size with h | h
    · exact h
    · simp [Array.getElem?_eq_none h] at hcell
  have HO := Lib.hid hB.own
  clear hB
  have g0 : decide (n < -72057594037927936) = false := by simp; omega
  have g1 : decide (n < -281474976710656) = false := by simp; omega
  have g2 : decide (n < -1099511627776) = false := by simp; omega
  have g3 : decide (n < -4294967296) = false := by simp; omega
  have g4 : decide (n < -16777216) = false := by simp; omega
  have g5 : decide (n < -65536) = false := by simp; omega
  have g6 : decide (n < -256) = false := by simp; omega
  have g7 : decide (n < 0) = false := by simp; omega
  have g8 : decide (n ≤ 170) = false := by simp; omega
  have g9 : decide (n ≤ 255) = false := by simp; omega
  have g10 : decide (n ≤ 65535) = true := by simp; omega
  go_enter Tryd.func35, Tryd.ntmps35
  (repeat (first | (at_builtin; refine wpList_append_own _ rfl (.tmp 215) (.tmp 221) 27 rfl (g + 1) 5 i0 _ 1 1 Tryd.underlying27 hi hz0 hz1 hz2 rfl (by decide) _ bs.length (u8s bs) rfl ?own ⟨W.heap.size, 0, none⟩ 3 3 [_, _, _] rfl rfl (by exact fun j u hj => (cell_new W 5 _ j).trans hj) ?c2 ?c3 ?c4 ?c5 ?_) | go_values | go_skip | go_guarded | go_step | go_upon))
  case own => exact HO.out.alloc _
  case c2 => intro u hu; simp at hu; rcases hu with rfl | rfl | rfl <;> rfl
  case c3 => unfold maxLen; omega
  case c4 => omega
  case c5 => show g + 1 ≤ (W.alloc _).heap.size; simp; omega
  intro v' w1 hown hgrow _
  have hgw : w1.heap[g]? = some (.cells #[v] 27) := by
    rw [hgrow.block g (by simp; omega) (fun h => by have := (HO.out.lt g h.symm).1; omega), heap_alloc_old _ _ hgs]
    exact hcell
  obtain ⟨hc1, hf1⟩ := cells_at hgw
  obtain ⟨va, vc, rfl⟩ := ownsRow_slice hown
  have HOWN := Lib.hid hown
  have HG := Lib.hid hgrow
  clear hown hgrow
  (repeat (first | go_values | go_skip | go_guarded | go_step | go_upon))
  go_end0
  obtain ⟨b1, b2⟩ := Buf.grow (news := 78 :: be 2 n) ⟨hcell, HO.out⟩ HOWN.out HG.out (by simp [be]) (by
    rw [u8s_append]
    congr 1
    simp only [u8s, be, List.map_cons, List.map_nil, List.nil_append, List.cons_append, u8z, List.cons.injEq, Value.int.injEq, true_and, and_true]
    skip
    first | exact ⟨rfl, by omega⟩ | rfl | omega)
  exact ⟨rfl, _, b1, b2⟩

set_option maxRecDepth 100000 in
set_option maxHeartbeats 4000000 in
theorem encIp_3 (n : Int) (g : Nat) (bs : List UInt8) (v : Value) (W : World) (h0 : 65536 ≤ n) (h1 : n ≤ 16777215) (hl : bs.length ≤ 100000000) (hB : Buf W g bs v) :
    Calls Tryd.prog 35 #[.int .i64 n, .pointer (some ⟨g, 0, none⟩)] W fun e w' => e = .returned (.tuple #[]) ∧ ∃ v', Buf w' g (bs ++ (79 :: be 3 n)) v' ∧ Below g W w' := by
  obtain ⟨i0, hi, hz0, hz1, hz2⟩ := info_parts info5
  have hc := (cells_at hB.cell).1
  have hcell := hB.cell
  have hgs : g < W.heap.size := by
    rcases Nat.lt_or_ge g W.heap.size with h | h
    · exact h
    · simp [Array.getElem?_eq_none h] at hcell
  have HO := Lib.hid hB.own
  clear hB
  have g0 : decide (n < -72057594037927936) = false := by simp; omega
  have g1 : decide (n < -281474976710656) = false := by simp; omega
  have g2 : decide (n < -1099511627776) = false := by simp; omega
  have g3 : decide (n < -4294967296) = false := by simp; omega
  have g4 : decide (n < -16777216) = false := by simp; omega
  have g5 : decide (n < -65536) = false := by simp; omega
  have g6 : decide (n < -256) = false := by simp; omega
  have g7 : decide (n < 0) = false := by simp; omega
  have g8 : decide (n ≤ 170) = false := by simp; omega
  have g9 : decide (n ≤ 255) = false := by simp; omega
  have g10 : decide (n ≤ 65535) = false := by simp; omega
  have g11 : decide (n ≤ 16777215) = true := by simp; omega
  go_enter Tryd.func35, Tryd.ntmps35
  (repeat (first | (at_builtin; refine wpList_append_own _ rfl (.tmp 230) (.tmp 239) 27 rfl (g + 1) 5 i0 _ 1 1 Tryd.underlying27 hi hz0 hz1 hz2 rfl (by decide) _ bs.length (u8s bs) rfl ?own ⟨W.heap.size, 0, none⟩ 4 4 [_, _, _, _] rfl rfl (by exact fun j u hj => (cell_new W 5 _ j).trans hj) ?c2 ?c3 ?c4 ?c5 ?_) | go_values | go_skip | go_guarded | go_step | go_upon))
  case own => exact HO.out.alloc _
  case c2 => intro u hu; simp at hu; rcases hu with rfl | rfl | rfl | rfl <;> rfl
  case c3 => unfold maxLen; omega
  case c4 => omega
  case c5 => show g + 1 ≤ (W.alloc _).heap.size; simp; omega
  intro v' w1 hown hgrow _
  have hgw : w1.heap[g]? = some (.cells #[v] 27) := by
    rw [hgrow.block g (by simp; omega) (fun h => by have := (HO.out.lt g h.symm).1; omega), heap_alloc_old _ _ hgs]
    exact hcell
  obtain ⟨hc1, hf1⟩ := cells_at hgw
  obtain ⟨va, vc, rfl⟩ := ownsRow_slice hown
  have HOWN := Lib.hid hown
  have HG := Lib.hid hgrow
  clear hown hgrow
  (repeat (first | go_values | go_skip | go_guarded | go_step | go_upon))
  go_end0
  obtain ⟨b1, b2⟩ := Buf.grow (news := 79 :: be 3 n) ⟨hcell, HO.out⟩ HOWN.out HG.out (by simp [be]) (by
    rw [u8s_append]
    congr 1
    simp only [u8s, be, List.map_cons, List.map_nil, List.nil_append, List.cons_append, u8z, List.cons.injEq, Value.int.injEq, true_and, and_true]
    skip
    first | exact ⟨rfl, by omega⟩ | rfl | omega)
  exact ⟨rfl, _, b1, b2⟩

set_option maxRecDepth 100000 in
set_option maxHeartbeats 4000000 in
theorem encIp_4 (n : Int) (g : Nat) (bs : List UInt8) (v : Value) (W : World) (h0 : 16777216 ≤ n) (h1 : n ≤ 4294967295) (hl : bs.length ≤ 100000000) (hB : Buf W g bs v) :
    Calls Tryd.prog 35 #[.int .i64 n, .pointer (some ⟨g, 0, none⟩)] W fun e w' => e = .returned (.tuple #[]) ∧ ∃ v', Buf w' g (bs ++ (80 :: be 4 n)) v' ∧ Below g W w' := by
  obtain ⟨i0, hi, hz0, hz1, hz2⟩ := info_parts info5
  have hc := (cells_at hB.cell).1
  have hcell := hB.cell
  have hgs : g < W.heap.size := by
    rcases Nat.lt_or_ge g W.heap.size with h | h
    · exact h
    · simp [Array.getElem?_eq_none h] at hcell
  have HO := Lib.hid hB.own
  clear hB
  have g0 : decide (n < -72057594037927936) = false := by simp; omega
  have g1 : decide (n < -281474976710656) = false := by simp; omega
  have g2 : decide (n < -1099511627776) = false := by simp; omega
  have g3 : decide (n < -4294967296) = false := by simp; omega
  have g4 : decide (n < -16777216) = false := by simp; omega
  have g5 : decide (n < -65536) = false := by simp; omega
  have g6 : decide (n < -256) = false := by simp; omega
  have g7 : decide (n < 0) = false := by simp; omega
  have g8 : decide (n ≤ 170) = false := by simp; omega
  have g9 : decide (n ≤ 255) = false := by simp; omega
  have g10 : decide (n ≤ 65535) = false := by simp; omega
  have g11 : decide (n ≤ 16777215) = false := by simp; omega
  have g12 : decide (n ≤ 4294967295) = true := by simp; omega
  go_enter Tryd.func35, Tryd.ntmps35
  (repeat (first | (at_builtin; refine wpList_append_own _ rfl (.tmp 248) (.tmp 260) 27 rfl (g + 1) 5 i0 _ 1 1 Tryd.underlying27 hi hz0 hz1 hz2 rfl (by decide) _ bs.length (u8s bs) rfl ?own ⟨W.heap.size, 0, none⟩ 5 5 [_, _, _, _, _] rfl rfl (by exact fun j u hj => (cell_new W 5 _ j).trans hj) ?c2 ?c3 ?c4 ?c5 ?_) | go_values | go_skip | go_guarded | go_step | go_upon))
  case own => exact HO.out.alloc _
  case c2 => intro u hu; simp at hu; rcases hu with rfl | rfl | rfl | rfl | rfl <;> rfl
  case c3 => unfold maxLen; omega
  case c4 => omega
  case c5 => show g + 1 ≤ (W.alloc _).heap.size; simp; omega
  intro v' w1 hown hgrow _
  have hgw : w1.heap[g]? = some (.cells #[v] 27) := by
    rw [hgrow.block g (by simp; omega) (fun h => by have := (HO.out.lt g h.symm).1; omega), heap_alloc_old _ _ hgs]
    exact hcell
  obtain ⟨hc1, hf1⟩ := cells_at hgw
  obtain ⟨va, vc, rfl⟩ := ownsRow_slice hown
  have HOWN := Lib.hid hown
  have HG := Lib.hid hgrow
  clear hown hgrow
  (repeat (first | go_values | go_skip | go_guarded | go_step | go_upon))
  go_end0
  obtain ⟨b1, b2⟩ := Buf.grow (news := 80 :: be 4 n) ⟨hcell, HO.out⟩ HOWN.out HG.out (by simp [be]) (by
    rw [u8s_append]
    congr 1
    simp only [u8s, be, List.map_cons, List.map_nil, List.nil_append, List.cons_append, u8z, List.cons.injEq, Value.int.injEq, true_and, and_true]
    skip
    first | exact ⟨rfl, by omega⟩ | rfl | omega)
  exact ⟨rfl, _, b1, b2⟩

set_option maxRecDepth 100000 in
set_option maxHeartbeats 4000000 in
theorem encIp_5 (n : Int) (g : Nat) (bs : List UInt8) (v : Value) (W : World) (h0 : 4294967296 ≤ n) (h1 : n ≤ 1099511627775) (hl : bs.length ≤ 100000000) (hB : Buf W g bs v) :
    Calls Tryd.prog 35 #[.int .i64 n, .pointer (some ⟨g, 0, none⟩)] W fun e w' => e = .returned (.tuple #[]) ∧ ∃ v', Buf w' g (bs ++ (81 :: be 5 n)) v' ∧ Below g W w' := by
  obtain ⟨i0, hi, hz0, hz1, hz2⟩ := info_parts info5
  have hc := (cells_at hB.cell).1
  have hcell := hB.cell
  have hgs : g < W.heap.size := by
    rcases Nat.lt_or_ge g W.heap.size with h | h
    · exact h
    · simp [Array.getElem?_eq_none h] at hcell
  have HO := Lib.hid hB.own
  clear hB
  have g0 : decide (n < -72057594037927936) = false := by simp; omega
  have g1 : decide (n < -281474976710656) = false := by simp; omega
  have g2 : decide (n < -1099511627776) = false := by simp; omega
  have g3 : decide (n < -4294967296) = false := by simp; omega
  have g4 : decide (n < -16777216) = false := by simp; omega
  have g5 : decide (n < -65536) = false := by simp; omega
  have g6 : decide (n < -256) = false := by simp; omega
  have g7 : decide (n < 0) = false := by simp; omega
  have g8 : decide (n ≤ 170) = false := by simp; omega
  have g9 : decide (n ≤ 255) = false := by simp; omega
  have g10 : decide (n ≤ 65535) = false := by simp; omega
  have g11 : decide (n ≤ 16777215) = false := by simp; omega
  have g12 : decide (n ≤ 4294967295) = false := by simp; omega
  have g13 : decide (n ≤ 1099511627775) = true := by simp; omega
  go_enter Tryd.func35, Tryd.ntmps35
  (repeat (first | (at_builtin; refine wpList_append_own _ rfl (.tmp 269) (.tmp 284) 27 rfl (g + 1) 5 i0 _ 1 1 Tryd.underlying27 hi hz0 hz1 hz2 rfl (by decide) _ bs.length (u8s bs) rfl ?own ⟨W.heap.size, 0, none⟩ 6 6 [_, _, _, _, _, _] rfl rfl (by exact fun j u hj => (cell_new W 5 _ j).trans hj) ?c2 ?c3 ?c4 ?c5 ?_) | go_values | go_skip | go_guarded | go_step | go_upon))
  case own => exact HO.out.alloc _
  case c2 => intro u hu; simp at hu; rcases hu with rfl | rfl | rfl | rfl | rfl | rfl <;> rfl
  case c3 => unfold maxLen; omega
  case c4 => omega
  case c5 => show g + 1 ≤ (W.alloc _).heap.size; simp; omega
  intro v' w1 hown hgrow _
  have hgw : w1.heap[g]? = some (.cells #[v] 27) := by
    rw [hgrow.block g (by simp; omega) (fun h => by have := (HO.out.lt g h.symm).1; omega), heap_alloc_old _ _ hgs]
    exact hcell
  obtain ⟨hc1, hf1⟩ := cells_at hgw
  obtain ⟨va, vc, rfl⟩ := ownsRow_slice hown
  have HOWN := Lib.hid hown
  have HG := Lib.hid hgrow
  clear hown hgrow
  (repeat (first | go_values | go_skip | go_guarded | go_step | go_upon))
  go_end0
  obtain ⟨b1, b2⟩ := Buf.grow (news := 81 :: be 5 n) ⟨hcell, HO.out⟩ HOWN.out HG.out (by simp [be]) (by
    rw [u8s_append]
    congr 1
    simp only [u8s, be, List.map_cons, List.map_nil, List.nil_append, List.cons_append, u8z, List.cons.injEq, Value.int.injEq, true_and, and_true]
    skip
    first | exact ⟨rfl, by omega⟩ | rfl | omega)
  exact ⟨rfl, _, b1, b2⟩

set_option maxRecDepth 100000 in
set_option maxHeartbeats 4000000 in
theorem encIp_6 (n : Int) (g : Nat) (bs : List UInt8) (v : Value) (W : World) (h0 : 1099511627776 ≤ n) (h1 : n ≤ 281474976710655) (hl : bs.length ≤ 100000000) (hB : Buf W g bs v) :
    Calls Tryd.prog 35 #[.int .i64 n, .pointer (some ⟨g, 0, none⟩)] W fun e w' => e = .returned (.tuple #[]) ∧ ∃ v', Buf w' g (bs ++ (82 :: be 6 n)) v' ∧ Below g W w' := by
  obtain ⟨i0, hi, hz0, hz1, hz2⟩ := info_parts info5
  have hc := (cells_at hB.cell).1
  have hcell := hB.cell
  have hgs : g < W.heap.size := by
    rcases Nat.lt_or_ge g W.heap.size with h | h
    · exact h
    · simp [Array.getElem?_eq_none h] at hcell
  have HO := Lib.hid hB.own
  clear hB
  have g0 : decide (n < -72057594037927936) = false := by simp; omega
  have g1 : decide (n < -281474976710656) = false := by simp; omega
  have g2 : decide (n < -1099511627776) = false := by simp; omega
  have g3 : decide (n < -4294967296) = false := by simp; omega
  have g4 : decide (n < -16777216) = false := by simp; omega
  have g5 : decide (n < -65536) = false := by simp; omega
  have g6 : decide (n < -256) = false := by simp; omega
  have g7 : decide (n < 0) = false := by simp; omega
  have g8 : decide (n ≤ 170) = false := by simp; omega
  have g9 : decide (n ≤ 255) = false := by simp; omega
  have g10 : decide (n ≤ 65535) = false := by simp; omega
  have g11 : decide (n ≤ 16777215) = false := by simp; omega
  have g12 : decide (n ≤ 4294967295) = false := by simp; omega
  have g13 : decide (n ≤ 1099511627775) = false := by simp; omega
  have g14 : decide (n ≤ 281474976710655) = true := by simp; omega
  go_enter Tryd.func35, Tryd.ntmps35
  (repeat (first | (at_builtin; refine wpList_append_own _ rfl (.tmp 293) (.tmp 311) 27 rfl (g + 1) 5 i0 _ 1 1 Tryd.underlying27 hi hz0 hz1 hz2 rfl (by decide) _ bs.length (u8s bs) rfl ?own ⟨W.heap.size, 0, none⟩ 7 7 [_, _, _, _, _, _, _] rfl rfl (by exact fun j u hj => (cell_new W 5 _ j).trans hj) ?c2 ?c3 ?c4 ?c5 ?_) | go_values | go_skip | go_guarded | go_step | go_upon))
  case own => exact HO.out.alloc _
  case c2 => intro u hu; simp at hu; rcases hu with rfl | rfl | rfl | rfl | rfl | rfl | rfl <;> rfl
  case c3 => unfold maxLen; omega
  case c4 => omega
  case c5 => show g + 1 ≤ (W.alloc _).heap.size; simp; omega
  intro v' w1 hown hgrow _
  have hgw : w1.heap[g]? = some (.cells #[v] 27) := by
    rw [hgrow.block g (by simp; omega) (fun h => by have := (HO.out.lt g h.symm).1; omega), heap_alloc_old _ _ hgs]
    exact hcell
  obtain ⟨hc1, hf1⟩ := cells_at hgw
  obtain ⟨va, vc, rfl⟩ := ownsRow_slice hown
  have HOWN := Lib.hid hown
  have HG := Lib.hid hgrow
  clear hown hgrow
  (repeat (first | go_values | go_skip | go_guarded | go_step | go_upon))
  go_end0
  obtain ⟨b1, b2⟩ := Buf.grow (news := 82 :: be 6 n) ⟨hcell, HO.out⟩ HOWN.out HG.out (by simp [be]) (by
    rw [u8s_append]
    congr 1
    simp only [u8s, be, List.map_cons, List.map_nil, List.nil_append, List.cons_append, u8z, List.cons.injEq, Value.int.injEq, true_and, and_true]
    skip
    first | exact ⟨rfl, by omega⟩ | rfl | omega)
  exact ⟨rfl, _, b1, b2⟩

set_option maxRecDepth 100000 in
set_option maxHeartbeats 4000000 in
theorem encIp_7 (n : Int) (g : Nat) (bs : List UInt8) (v : Value) (W : World) (h0 : 281474976710656 ≤ n) (h1 : n ≤ 72057594037927935) (hl : bs.length ≤ 100000000) (hB : Buf W g bs v) :
    Calls Tryd.prog 35 #[.int .i64 n, .pointer (some ⟨g, 0, none⟩)] W fun e w' => e = .returned (.tuple #[]) ∧ ∃ v', Buf w' g (bs ++ (83 :: be 7 n)) v' ∧ Below g W w' := by
  obtain ⟨i0, hi, hz0, hz1, hz2⟩ := info_parts info5
  have hc := (cells_at hB.cell).1
  have hcell := hB.cell
  have hgs : g < W.heap.size := by
    rcases Nat.lt_or_ge g W.heap.size with h | h
    · exact h
    · simp [Array.getElem?_eq_none h] at hcell
  have HO := Lib.hid hB.own
  clear hB
  have g0 : decide (n < -72057594037927936) = false := by simp; omega
  have g1 : decide (n < -281474976710656) = false := by simp; omega
  have g2 : decide (n < -1099511627776) = false := by simp; omega
  have g3 : decide (n < -4294967296) = false := by simp; omega
  have g4 : decide (n < -16777216) = false := by simp; omega
  have g5 : decide (n < -65536) = false := by simp; omega
  have g6 : decide (n < -256) = false := by simp; omega
  have g7 : decide (n < 0) = false := by simp; omega
  have g8 : decide (n ≤ 170) = false := by simp; omega
  have g9 : decide (n ≤ 255) = false := by simp; omega
  have g10 : decide (n ≤ 65535) = false := by simp; omega
  have g11 : decide (n ≤ 16777215) = false := by simp; omega
  have g12 : decide (n ≤ 4294967295) = false := by simp; omega
  have g13 : decide (n ≤ 1099511627775) = false := by simp; omega
  have g14 : decide (n ≤ 281474976710655) = false := by simp; omega
  have g15 : decide (n ≤ 72057594037927935) = true := by simp; omega
  go_enter Tryd.func35, Tryd.ntmps35
  (repeat (first | (at_builtin; refine wpList_append_own _ rfl (.tmp 320) (.tmp 341) 27 rfl (g + 1) 5 i0 _ 1 1 Tryd.underlying27 hi hz0 hz1 hz2 rfl (by decide) _ bs.length (u8s bs) rfl ?own ⟨W.heap.size, 0, none⟩ 8 8 [_, _, _, _, _, _, _, _] rfl rfl (by exact fun j u hj => (cell_new W 5 _ j).trans hj) ?c2 ?c3 ?c4 ?c5 ?_) | go_values | go_skip | go_guarded | go_step | go_upon))
  case own => exact HO.out.alloc _
  case c2 => intro u hu; simp at hu; rcases hu with rfl | rfl | rfl | rfl | rfl | rfl | rfl | rfl <;> rfl
  case c3 => unfold maxLen; omega
  case c4 => omega
  case c5 => show g + 1 ≤ (W.alloc _).heap.size; simp; omega
  intro v' w1 hown hgrow _
  have hgw : w1.heap[g]? = some (.cells #[v] 27) := by
    rw [hgrow.block g (by simp; omega) (fun h => by have := (HO.out.lt g h.symm).1; omega), heap_alloc_old _ _ hgs]
    exact hcell
  obtain ⟨hc1, hf1⟩ := cells_at hgw
  obtain ⟨va, vc, rfl⟩ := ownsRow_slice hown
  have HOWN := Lib.hid hown
  have HG := Lib.hid hgrow
  clear hown hgrow
  (repeat (first | go_values | go_skip | go_guarded | go_step | go_upon))
  go_end0
  obtain ⟨b1, b2⟩ := Buf.grow (news := 83 :: be 7 n) ⟨hcell, HO.out⟩ HOWN.out HG.out (by simp [be]) (by
    rw [u8s_append]
    congr 1
    simp only [u8s, be, List.map_cons, List.map_nil, List.nil_append, List.cons_append, u8z, List.cons.injEq, Value.int.injEq, true_and, and_true]
    skip
    first | exact ⟨rfl, by omega⟩ | rfl | omega)
  exact ⟨rfl, _, b1, b2⟩

set_option maxRecDepth 100000 in
set_option maxHeartbeats 4000000 in
theorem encIp_8 (n : Int) (g : Nat) (bs : List UInt8) (v : Value) (W : World) (h0 : 72057594037927936 ≤ n) (h1 : n ≤ 9223372036854775807) (hl : bs.length ≤ 100000000) (hB : Buf W g bs v) :
    Calls Tryd.prog 35 #[.int .i64 n, .pointer (some ⟨g, 0, none⟩)] W fun e w' => e = .returned (.tuple #[]) ∧ ∃ v', Buf w' g (bs ++ (84 :: be 8 n)) v' ∧ Below g W w' := by
  obtain ⟨i0, hi, hz0, hz1, hz2⟩ := info_parts info5
  have hc := (cells_at hB.cell).1
  have hcell := hB.cell
  have hgs : g < W.heap.size := by
    rcases Nat.lt_or_ge g W.heap.size with h | h
    · exact h
    · simp [Array.getElem?_eq_none h] at hcell
  have HO := Lib.hid hB.own
  clear hB
  have g0 : decide (n < -72057594037927936) = false := by simp; omega
  have g1 : decide (n < -281474976710656) = false := by simp; omega
  have g2 : decide (n < -1099511627776) = false := by simp; omega
  have g3 : decide (n < -4294967296) = false := by simp; omega
  have g4 : decide (n < -16777216) = false := by simp; omega
  have g5 : decide (n < -65536) = false := by simp; omega
  have g6 : decide (n < -256) = false := by simp; omega
  have g7 : decide (n < 0) = false := by simp; omega
  have g8 : decide (n ≤ 170) = false := by simp; omega
  have g9 : decide (n ≤ 255) = false := by simp; omega
  have g10 : decide (n ≤ 65535) = false := by simp; omega
  have g11 : decide (n ≤ 16777215) = false := by simp; omega
  have g12 : decide (n ≤ 4294967295) = false := by simp; omega
  have g13 : decide (n ≤ 1099511627775) = false := by simp; omega
  have g14 : decide (n ≤ 281474976710655) = false := by simp; omega
  have g15 : decide (n ≤ 72057594037927935) = false := by simp; omega
  have g16 : decide (n ≤ 9223372036854775807) = true := by simp; omega
  go_enter Tryd.func35, Tryd.ntmps35
  (repeat (first | (at_builtin; refine wpList_append_own _ rfl (.tmp 350) (.tmp 374) 27 rfl (g + 1) 5 i0 _ 1 1 Tryd.underlying27 hi hz0 hz1 hz2 rfl (by decide) _ bs.length (u8s bs) rfl ?own ⟨W.heap.size, 0, none⟩ 9 9 [_, _, _, _, _, _, _, _, _] rfl rfl (by exact fun j u hj => (cell_new W 5 _ j).trans hj) ?c2 ?c3 ?c4 ?c5 ?_) | go_values | go_skip | go_guarded | go_step | go_upon))
  case own => exact HO.out.alloc _
  case c2 => intro u hu; simp at hu; rcases hu with rfl | rfl | rfl | rfl | rfl | rfl | rfl | rfl | rfl <;> rfl
  case c3 => unfold maxLen; omega
  case c4 => omega
  case c5 => show g + 1 ≤ (W.alloc _).heap.size; simp; omega
  intro v' w1 hown hgrow _
  have hgw : w1.heap[g]? = some (.cells #[v] 27) := by
    rw [hgrow.block g (by simp; omega) (fun h => by have := (HO.out.lt g h.symm).1; omega), heap_alloc_old _ _ hgs]
    exact hcell
  obtain ⟨hc1, hf1⟩ := cells_at hgw
  obtain ⟨va, vc, rfl⟩ := ownsRow_slice hown
  have HOWN := Lib.hid hown
  have HG := Lib.hid hgrow
  clear hown hgrow
  (repeat (first | go_values | go_skip | go_guarded | go_step | go_upon))
  go_end0
  obtain ⟨b1, b2⟩ := Buf.grow (news := 84 :: be 8 n) ⟨hcell, HO.out⟩ HOWN.out HG.out (by simp [be]) (by
    rw [u8s_append]
    congr 1
    simp only [u8s, be, List.map_cons, List.map_nil, List.nil_append, List.cons_append, u8z, List.cons.injEq, Value.int.injEq, true_and, and_true]
    skip
    first | exact ⟨rfl, by omega⟩ | rfl | omega)
  exact ⟨rfl, _, b1, b2⟩

/-- the bytes of an integer -/
def encI (n : Int) : List UInt8 :=
  if n < -72057594037927936 then 69 :: be 8 n
  else if n < -281474976710656 then 70 :: be 7 n
  else if n < -1099511627776 then 71 :: be 6 n
  else if n < -4294967296 then 72 :: be 5 n
  else if n < -16777216 then 73 :: be 4 n
  else if n < -65536 then 74 :: be 3 n
  else if n < -256 then 75 :: be 2 n
  else if n < 0 then 76 :: be 1 n
  else if n ≤ 170 then [UInt8.ofNat (n + 85).toNat]
  else if n ≤ 255 then 77 :: be 1 n
  else if n ≤ 65535 then 78 :: be 2 n
  else if n ≤ 16777215 then 79 :: be 3 n
  else if n ≤ 4294967295 then 80 :: be 4 n
  else if n ≤ 1099511627775 then 81 :: be 5 n
  else if n ≤ 281474976710655 then 82 :: be 6 n
  else if n ≤ 72057594037927935 then 83 :: be 7 n
  else 84 :: be 8 n

theorem encInt_any (n : Int) (g : Nat) (bs : List UInt8) (v : Value) (W : World) (h0 : -9223372036854775808 ≤ n) (h1 : n ≤ 9223372036854775807) (hl : bs.length ≤ 100000000) (hB : Buf W g bs v) :
    Calls Tryd.prog 35 #[.int .i64 n, .pointer (some ⟨g, 0, none⟩)] W fun e w' => e = .returned (.tuple #[]) ∧ ∃ v', Buf w' g (bs ++ encI n) v' ∧ Below g W w' := by
  unfold encI
  by_cases q0 : n < -72057594037927936
  · rw [if_pos q0]; exact encIm_8 n g bs v W (by omega) (by omega) hl hB
  rw [if_neg q0]
  by_cases q1 : n < -281474976710656
  · rw [if_pos q1]; exact encIm_7 n g bs v W (by omega) (by omega) hl hB
  rw [if_neg q1]
  by_cases q2 : n < -1099511627776
  · rw [if_pos q2]; exact encIm_6 n g bs v W (by omega) (by omega) hl hB
  rw [if_neg q2]
  by_cases q3 : n < -4294967296
  · rw [if_pos q3]; exact encIm_5 n g bs v W (by omega) (by omega) hl hB
  rw [if_neg q3]
  by_cases q4 : n < -16777216
  · rw [if_pos q4]; exact encIm_4 n g bs v W (by omega) (by omega) hl hB
  rw [if_neg q4]
  by_cases q5 : n < -65536
  · rw [if_pos q5]; exact encIm_3 n g bs v W (by omega) (by omega) hl hB
  rw [if_neg q5]
  by_cases q6 : n < -256
  · rw [if_pos q6]; exact encIm_2 n g bs v W (by omega) (by omega) hl hB
  rw [if_neg q6]
  by_cases q7 : n < 0
  · rw [if_pos q7]; exact encIm_1 n g bs v W (by omega) (by omega) hl hB
  rw [if_neg q7]
  by_cases q8 : n ≤ 170
  · rw [if_pos q8]; exact encInt_small n g bs v W (by omega) (by omega) hl hB
  rw [if_neg q8]
  by_cases q9 : n ≤ 255
  · rw [if_pos q9]; exact encIp_1 n g bs v W (by omega) (by omega) hl hB
  rw [if_neg q9]
  by_cases q10 : n ≤ 65535
  · rw [if_pos q10]; exact encIp_2 n g bs v W (by omega) (by omega) hl hB
  rw [if_neg q10]
  by_cases q11 : n ≤ 16777215
  · rw [if_pos q11]; exact encIp_3 n g bs v W (by omega) (by omega) hl hB
  rw [if_neg q11]
  by_cases q12 : n ≤ 4294967295
  · rw [if_pos q12]; exact encIp_4 n g bs v W (by omega) (by omega) hl hB
  rw [if_neg q12]
  by_cases q13 : n ≤ 1099511627775
  · rw [if_pos q13]; exact encIp_5 n g bs v W (by omega) (by omega) hl hB
  rw [if_neg q13]
  by_cases q14 : n ≤ 281474976710655
  · rw [if_pos q14]; exact encIp_6 n g bs v W (by omega) (by omega) hl hB
  rw [if_neg q14]
  by_cases q15 : n ≤ 72057594037927935
  · rw [if_pos q15]; exact encIp_7 n g bs v W (by omega) (by omega) hl hB
  rw [if_neg q15]
  exact encIp_8 n g bs v W (by omega) (by omega) hl hB

end Go.Proofs.YtaoonpncnahhgaaDoor

namespace Go.Proofs.YtaoonpncnahhgaaDoor
open Go.RowKit

theorem len8_pos : ∀ j : Fin 256, 0 < j.val → 1 ≤ Lib.len8 j.val ∧ Lib.len8 j.val ≤ 8 := by decide +kernel
theorem len8_zero : Lib.len8 0 = 0 := by decide +kernel
theorem len8_in (i : Int) (h0 : 1 ≤ i) (h1 : i ≤ 255) : 1 ≤ Lib.len8 i ∧ Lib.len8 i ≤ 8 := by
  have := len8_pos ⟨i.toNat, by omega⟩ (by simp; omega)
  have e : ((i.toNat : Nat) : Int) = i := by omega
  simpa only [e] using this

set_option maxRecDepth 100000 in
set_option maxHeartbeats 2000000 in
theorem len64_1 (n : Nat) (w : World) (h0 : 1 ≤ n) (h1 : n < 256) :
    Calls Tryd.prog 56 #[.int .u64 (n : Int)] w fun e w' => ∃ L : Int, e = .returned (.int .i64 L) ∧ w' = w ∧ 0 < L ∧ L ≤ 8 := by
  have g0 : decide ((4294967296 : Int) ≤ (n : Int)) = false := by simp; omega
  have g1 : decide ((65536 : Int) ≤ (n : Int)) = false := by simp; omega
  have g2 : decide ((256 : Int) ≤ (n : Int)) = false := by simp; omega
  have t := len8_in ((n : Int)) (by omega) (by omega)
  have b0 : 0 ≤ (n : Int) := by omega
  have b1 : (n : Int) ≤ 255 := by omega
  have b2 : n ≤ 255 := by omega
  go_enter Tryd.func56, Tryd.ntmps56
  (repeat (first | go_values | go_skip | go_guarded | go_step | go_upon))
  go_ret
  refine ⟨_, rfl, rfl, ?_, ?_⟩ <;> omega

set_option maxRecDepth 100000 in
set_option maxHeartbeats 2000000 in
theorem len64_2 (n : Nat) (w : World) (h0 : 256 ≤ n) (h1 : n < 65536) :
    Calls Tryd.prog 56 #[.int .u64 (n : Int)] w fun e w' => ∃ L : Int, e = .returned (.int .i64 L) ∧ w' = w ∧ 8 < L ∧ L ≤ 16 := by
  have g0 : decide ((4294967296 : Int) ≤ (n : Int)) = false := by simp; omega
  have g1 : decide ((65536 : Int) ≤ (n : Int)) = false := by simp; omega
  have g2 : decide ((256 : Int) ≤ (n : Int)) = true := by simp; omega
  have t := len8_in ((n : Int) / 256) (by omega) (by omega)
  have b0 : 0 ≤ (n : Int) / 256 := by omega
  have b1 : (n : Int) / 256 ≤ 255 := by omega
  have b2 : n / 256 ≤ 255 := by omega
  go_enter Tryd.func56, Tryd.ntmps56
  (repeat (first | go_values | go_skip | go_guarded | go_step | go_upon))
  go_ret
  refine ⟨_, rfl, rfl, ?_, ?_⟩ <;> omega

set_option maxRecDepth 100000 in
set_option maxHeartbeats 2000000 in
theorem len64_3 (n : Nat) (w : World) (h0 : 65536 ≤ n) (h1 : n < 16777216) :
    Calls Tryd.prog 56 #[.int .u64 (n : Int)] w fun e w' => ∃ L : Int, e = .returned (.int .i64 L) ∧ w' = w ∧ 16 < L ∧ L ≤ 24 := by
  have g0 : decide ((4294967296 : Int) ≤ (n : Int)) = false := by simp; omega
  have g1 : decide ((65536 : Int) ≤ (n : Int)) = true := by simp; omega
  have g2 : decide ((256 : Int) ≤ (n : Int) / 65536) = false := by simp; omega
  have t := len8_in ((n : Int) / 65536) (by omega) (by omega)
  have b0 : 0 ≤ (n : Int) / 65536 := by omega
  have b1 : (n : Int) / 65536 ≤ 255 := by omega
  have b2 : n / 65536 ≤ 255 := by omega
  go_enter Tryd.func56, Tryd.ntmps56
  (repeat (first | go_values | go_skip | go_guarded | go_step | go_upon))
  go_ret
  refine ⟨_, rfl, rfl, ?_, ?_⟩ <;> omega

set_option maxRecDepth 100000 in
set_option maxHeartbeats 2000000 in
theorem len64_4 (n : Nat) (w : World) (h0 : 16777216 ≤ n) (h1 : n < 4294967296) :
    Calls Tryd.prog 56 #[.int .u64 (n : Int)] w fun e w' => ∃ L : Int, e = .returned (.int .i64 L) ∧ w' = w ∧ 24 < L ∧ L ≤ 32 := by
  have g0 : decide ((4294967296 : Int) ≤ (n : Int)) = false := by simp; omega
  have g1 : decide ((65536 : Int) ≤ (n : Int)) = true := by simp; omega
  have g2 : decide ((256 : Int) ≤ (n : Int) / 65536) = true := by simp; omega
  have t := len8_in ((n : Int) / 65536 / 256) (by omega) (by omega)
  have b0 : 0 ≤ (n : Int) / 65536 / 256 := by omega
  have b1 : (n : Int) / 65536 / 256 ≤ 255 := by omega
  have b2 : n / 65536 / 256 ≤ 255 := by omega
  go_enter Tryd.func56, Tryd.ntmps56
  (repeat (first | go_values | go_skip | go_guarded | go_step | go_upon))
  go_ret
  refine ⟨_, rfl, rfl, ?_, ?_⟩ <;> omega

set_option maxRecDepth 100000 in
set_option maxHeartbeats 2000000 in
theorem len64_5 (n : Nat) (w : World) (h0 : 4294967296 ≤ n) (h1 : n < 1099511627776) :
    Calls Tryd.prog 56 #[.int .u64 (n : Int)] w fun e w' => ∃ L : Int, e = .returned (.int .i64 L) ∧ w' = w ∧ 32 < L ∧ L ≤ 40 := by
  have g0 : decide ((4294967296 : Int) ≤ (n : Int)) = true := by simp; omega
  have g1 : decide ((65536 : Int) ≤ (n : Int) / 4294967296) = false := by simp; omega
  have g2 : decide ((256 : Int) ≤ (n : Int) / 4294967296) = false := by simp; omega
  have t := len8_in ((n : Int) / 4294967296) (by omega) (by omega)
  have b0 : 0 ≤ (n : Int) / 4294967296 := by omega
  have b1 : (n : Int) / 4294967296 ≤ 255 := by omega
  have b2 : n / 4294967296 ≤ 255 := by omega
  go_enter Tryd.func56, Tryd.ntmps56
  (repeat (first | go_values | go_skip | go_guarded | go_step | go_upon))
  go_ret
  refine ⟨_, rfl, rfl, ?_, ?_⟩ <;> omega

set_option maxRecDepth 100000 in
set_option maxHeartbeats 2000000 in
theorem len64_6 (n : Nat) (w : World) (h0 : 1099511627776 ≤ n) (h1 : n < 281474976710656) :
    Calls Tryd.prog 56 #[.int .u64 (n : Int)] w fun e w' => ∃ L : Int, e = .returned (.int .i64 L) ∧ w' = w ∧ 40 < L ∧ L ≤ 48 := by
  have g0 : decide ((4294967296 : Int) ≤ (n : Int)) = true := by simp; omega
  have g1 : decide ((65536 : Int) ≤ (n : Int) / 4294967296) = false := by simp; omega
  have g2 : decide ((256 : Int) ≤ (n : Int) / 4294967296) = true := by simp; omega
  have t := len8_in ((n : Int) / 4294967296 / 256) (by omega) (by omega)
  have b0 : 0 ≤ (n : Int) / 4294967296 / 256 := by omega
  have b1 : (n : Int) / 4294967296 / 256 ≤ 255 := by omega
  have b2 : n / 4294967296 / 256 ≤ 255 := by omega
  go_enter Tryd.func56, Tryd.ntmps56
  (repeat (first | go_values | go_skip | go_guarded | go_step | go_upon))
  go_ret
  refine ⟨_, rfl, rfl, ?_, ?_⟩ <;> omega

set_option maxRecDepth 100000 in
set_option maxHeartbeats 2000000 in
theorem len64_7 (n : Nat) (w : World) (h0 : 281474976710656 ≤ n) (h1 : n < 72057594037927936) :
    Calls Tryd.prog 56 #[.int .u64 (n : Int)] w fun e w' => ∃ L : Int, e = .returned (.int .i64 L) ∧ w' = w ∧ 48 < L ∧ L ≤ 56 := by
  have g0 : decide ((4294967296 : Int) ≤ (n : Int)) = true := by simp; omega
  have g1 : decide ((65536 : Int) ≤ (n : Int) / 4294967296) = true := by simp; omega
  have g2 : decide ((256 : Int) ≤ (n : Int) / 4294967296 / 65536) = false := by simp; omega
  have t := len8_in ((n : Int) / 4294967296 / 65536) (by omega) (by omega)
  have b0 : 0 ≤ (n : Int) / 4294967296 / 65536 := by omega
  have b1 : (n : Int) / 4294967296 / 65536 ≤ 255 := by omega
  have b2 : n / 4294967296 / 65536 ≤ 255 := by omega
  go_enter Tryd.func56, Tryd.ntmps56
  (repeat (first | go_values | go_skip | go_guarded | go_step | go_upon))
  go_ret
  refine ⟨_, rfl, rfl, ?_, ?_⟩ <;> omega

set_option maxRecDepth 100000 in
set_option maxHeartbeats 2000000 in
theorem len64_8 (n : Nat) (w : World) (h0 : 72057594037927936 ≤ n) (h1 : n < 18446744073709551616) :
    Calls Tryd.prog 56 #[.int .u64 (n : Int)] w fun e w' => ∃ L : Int, e = .returned (.int .i64 L) ∧ w' = w ∧ 56 < L ∧ L ≤ 64 := by
  have g0 : decide ((4294967296 : Int) ≤ (n : Int)) = true := by simp; omega
  have g1 : decide ((65536 : Int) ≤ (n : Int) / 4294967296) = true := by simp; omega
  have g2 : decide ((256 : Int) ≤ (n : Int) / 4294967296 / 65536) = true := by simp; omega
  have t := len8_in ((n : Int) / 4294967296 / 65536 / 256) (by omega) (by omega)
  have b0 : 0 ≤ (n : Int) / 4294967296 / 65536 / 256 := by omega
  have b1 : (n : Int) / 4294967296 / 65536 / 256 ≤ 255 := by omega
  have b2 : n / 4294967296 / 65536 / 256 ≤ 255 := by omega
  go_enter Tryd.func56, Tryd.ntmps56
  (repeat (first | go_values | go_skip | go_guarded | go_step | go_upon))
  go_ret
  refine ⟨_, rfl, rfl, ?_, ?_⟩ <;> omega

theorem len64_0 (w : World) : Calls Tryd.prog 56 #[.int .u64 0] w fun e w' => e = .returned (.int .i64 0) ∧ w' = w := by
  have t := len8_zero
  go_enter Tryd.func56, Tryd.ntmps56
  (repeat (first | go_values | go_skip | go_guarded | go_step | go_upon))
  go_ret
  exact ⟨rfl, rfl⟩

theorem nb_le (n : Nat) (_h : n < 18446744073709551616) : 1 ≤ nb n ∧ nb n ≤ 8 := by
  unfold nb
  repeat' split
  all_goals omega

theorem len64_any (n : Nat) (w : World) (hn : n < 18446744073709551616) :
    Calls Tryd.prog 56 #[.int .u64 (n : Int)] w fun e w' => ∃ L : Int, e = .returned (.int .i64 L) ∧ w' = w ∧ (n = 0 → L = 0) ∧ (0 < n → 8 * ((nb n : Int) - 1) < L ∧ L ≤ 8 * (nb n : Int)) := by
  by_cases h : n = 0
  · subst h
    exact (len64_0 w).mono fun e w' ⟨h1, h2⟩ => ⟨0, h1, h2, fun _ => rfl, fun h => by omega⟩
  · have e0 : ∀ L : Int, (n = 0 → L = 0) := fun L h' => absurd h' h
    unfold nb
    by_cases h1 : n < 256
    · rw [if_pos h1]; exact (len64_1 n w (by omega) (by omega)).mono fun e w' ⟨L, g1, g2, g3, g4⟩ => ⟨L, g1, g2, e0 L, fun _ => by omega⟩
    rw [if_neg h1]
    by_cases h2 : n < 65536
    · rw [if_pos h2]; exact (len64_2 n w (by omega) (by omega)).mono fun e w' ⟨L, g1, g2, g3, g4⟩ => ⟨L, g1, g2, e0 L, fun _ => by omega⟩
    rw [if_neg h2]
    by_cases h3 : n < 16777216
    · rw [if_pos h3]; exact (len64_3 n w (by omega) (by omega)).mono fun e w' ⟨L, g1, g2, g3, g4⟩ => ⟨L, g1, g2, e0 L, fun _ => by omega⟩
    rw [if_neg h3]
    by_cases h4 : n < 4294967296
    · rw [if_pos h4]; exact (len64_4 n w (by omega) (by omega)).mono fun e w' ⟨L, g1, g2, g3, g4⟩ => ⟨L, g1, g2, e0 L, fun _ => by omega⟩
    rw [if_neg h4]
    by_cases h5 : n < 1099511627776
    · rw [if_pos h5]; exact (len64_5 n w (by omega) (by omega)).mono fun e w' ⟨L, g1, g2, g3, g4⟩ => ⟨L, g1, g2, e0 L, fun _ => by omega⟩
    rw [if_neg h5]
    by_cases h6 : n < 281474976710656
    · rw [if_pos h6]; exact (len64_6 n w (by omega) (by omega)).mono fun e w' ⟨L, g1, g2, g3, g4⟩ => ⟨L, g1, g2, e0 L, fun _ => by omega⟩
    rw [if_neg h6]
    by_cases h7 : n < 72057594037927936
    · rw [if_pos h7]; exact (len64_7 n w (by omega) (by omega)).mono fun e w' ⟨L, g1, g2, g3, g4⟩ => ⟨L, g1, g2, e0 L, fun _ => by omega⟩
    rw [if_neg h7]
    exact (len64_8 n w (by omega) (by omega)).mono fun e w' ⟨L, g1, g2, g3, g4⟩ => ⟨L, g1, g2, e0 L, fun _ => by omega⟩

theorem bitlen_any (n : Nat) (w : World) (hn : n < 18446744073709551616) :
    Calls Tryd.prog 52 #[.int .u64 (n : Int)] w fun e w' => ∃ L : Int, e = .returned (.int .i64 L) ∧ w' = w ∧ (n = 0 → L = 0) ∧ (0 < n → 8 * ((nb n : Int) - 1) < L ∧ L ≤ 8 * (nb n : Int)) := by
  have H := Lib.hid (len64_any n w hn)
  go_enter Tryd.func52, Tryd.ntmps52
  (repeat (first | go_values | go_skip | go_guarded | go_step | go_upon))
  refine H.out.mono ?_
  rintro e w1 ⟨L, rfl, rfl, h1⟩
  have H1 := Lib.hid h1
  clear h1
  dsimp only
  (repeat (first | go_values | go_skip | go_guarded | go_step | go_upon))
  go_ret
  exact ⟨L, rfl, rfl, H1.out⟩

theorem max1_any (L : Int) (w : World) (_h0 : 0 ≤ L) (_h1 : L ≤ 64) :
    Calls Tryd.prog 51 #[.int .i64 1, .int .i64 L] w fun e w' => e = .returned (.int .i64 (if 1 < L then L else 1)) ∧ w' = w := by
  go_enter Tryd.func51, Tryd.ntmps51
  (repeat (first | go_values | go_skip | go_guarded | go_step | go_upon))
  go_ret
  exact ⟨rfl, rfl⟩

set_option maxRecDepth 100000 in
set_option maxHeartbeats 2000000 in
theorem encPrefix_any (p n : Nat) (g : Nat) (bs : List UInt8) (v : Value) (W : World) (hp : p < 256) (hn : n < 18446744073709551616) (hl : bs.length ≤ 800000000) (hB : Buf W g bs v) :
    Calls Tryd.prog 53 #[.int .u8 (p : Int), .int .u64 (n : Int), .pointer (some ⟨g, 0, none⟩)] W fun e w' => e = .returned (.tuple #[]) ∧ ∃ v', Buf w' g (bs ++ (UInt8.ofNat p :: be (nb n) n)) v' ∧ Below g W w' := by
  obtain ⟨i0, hi, hz0, hz1, hz2⟩ := info_parts info5
  have hc := (cells_at hB.cell).1
  have hcell := hB.cell
  have hgs : g < W.heap.size := by
    rcases Nat.lt_or_ge g W.heap.size with h | h
    · exact h
    · simp [Array.getElem?_eq_none h] at hcell
  have HO := Lib.hid hB.own
  clear hB
  go_enter Tryd.func53, Tryd.ntmps53
  (repeat (first | (at_builtin; refine wpList_append_own _ rfl (.tmp 9) (.tmp 11) 27 rfl (g + 1) 5 i0 _ 1 1 Tryd.underlying27 hi hz0 hz1 hz2 rfl (by decide) _ bs.length (u8s bs) rfl ?own ⟨W.heap.size, 0, none⟩ 1 1 [_] rfl rfl (by exact fun j u hj => (cell_new W 5 _ j).trans hj) ?c2 ?c3 ?c4 ?c5 ?_) | go_values | go_skip | go_guarded | go_step | go_upon))
  case own => exact HO.out.alloc _
  case c2 => intro u hu; simp at hu; rcases hu with rfl; rfl
  case c3 => unfold maxLen; omega
  case c4 => omega
  case c5 => show g + 1 ≤ (W.alloc _).heap.size; simp; omega
  intro v' w1 hown hgrow _
  have hgw : w1.heap[g]? = some (.cells #[v] 27) := by
    rw [hgrow.block g (by simp; omega) (fun h => by have := (HO.out.lt g h.symm).1; omega), heap_alloc_old _ _ hgs]
    exact hcell
  obtain ⟨hc1, hf1⟩ := cells_at hgw
  obtain ⟨va, vc, rfl⟩ := ownsRow_slice hown
  have HOWN := Lib.hid hown
  have HG := Lib.hid hgrow
  clear hown hgrow
  (repeat (first | go_values | go_skip | go_guarded | go_step | go_upon))
  obtain ⟨b1, b2⟩ := Buf.grow (news := [UInt8.ofNat p]) ⟨hcell, HO.out⟩ HOWN.out HG.out (by simp) (by
    have : ((UInt8.ofNat p).toNat : Int) = p := by rw [UInt8.toNat_ofNat']; omega
    unfold u8s; rw [List.map_append, List.map_cons, List.map_nil, this])
  refine (encUint0_any n g _ _ _ hn (by simp; omega) b1).mono ?_
  rintro e w2 ⟨rfl, v3, b3, b4⟩
  have hb := b2.trans b4
  have H3 := Lib.hid b3
  clear b1 b3
  dsimp only
  (repeat (first | go_values | go_skip | go_guarded | go_step | go_upon))
  go_end0
  exact ⟨rfl, v3, by have := H3.out; rwa [List.append_assoc, List.singleton_append] at this, hb⟩

set_option maxRecDepth 100000 in
set_option maxHeartbeats 2000000 in
theorem encUint_any (n : Nat) (g : Nat) (bs : List UInt8) (v : Value) (W : World) (hn : n < 18446744073709551616) (hl : bs.length ≤ 800000000) (hB : Buf W g bs v) :
    Calls Tryd.prog 36 #[.int .u64 (n : Int), .pointer (some ⟨g, 0, none⟩)] W fun e w' => e = .returned (.tuple #[]) ∧ ∃ v', Buf w' g (bs ++ (UInt8.ofNat (60 + nb n) :: be (nb n) n)) v' ∧ Below g W w' := by
  have hb := nb_le n hn
  have H1 := Lib.hid (bitlen_any n W hn)
  have h2 := encPrefix_any (60 + nb n) n g bs v W (by omega) hn hl hB
  rw [show ((60 + nb n : Nat) : Int) = 60 + (nb n : Int) by omega] at h2
  have H2 := Lib.hid h2
  clear h2
  have hz : n = 0 → nb n = 1 := fun h => by subst h; rfl
  clear hB
  generalize nb n = k at *
  go_enter Tryd.func36, Tryd.ntmps36
  (repeat (first | go_values | go_skip | go_guarded | go_step | go_upon))
  refine H1.out.mono ?_
  rintro e w1 ⟨L, rfl, rfl, h1, h2⟩
  have hL0 : 0 ≤ L ∧ L ≤ 64 := by
    by_cases h : n = 0
    · have := h1 h; omega
    · have := h2 (by omega); omega
  dsimp only
  (repeat (first | go_values | go_skip | go_guarded | go_step | go_upon))
  refine (max1_any L w1 hL0.1 hL0.2).mono ?_
  rintro e w2 ⟨rfl, rfl⟩
  obtain ⟨M, hM⟩ : ∃ M, (if 1 < L then L else (1 : Int)) = M := ⟨_, rfl⟩
  have hM2 : 1 ≤ M ∧ M ≤ 64 ∧ (M - 1) / 8 = (k : Int) - 1 := by
    by_cases h : n = 0
    · have := h1 h; have := hz h; rw [if_neg (by omega)] at hM; omega
    · have := h2 (by omega)
      split at hM <;> omega
  rw [hM]
  obtain ⟨hM0, hM1, hM3⟩ := hM2
  clear hM h1 h2 H1 hL0 hz
  dsimp only
  (repeat (first | go_values | go_skip | go_guarded | go_step | go_upon))
  rw [show 61 + ((k : Int) - 1) = 60 + (k : Int) by omega]
  refine H2.out.mono ?_
  rintro e w3 ⟨rfl, v3, b3, b4⟩
  have H3 := Lib.hid b3
  clear b3
  dsimp only
  (repeat (first | go_values | go_skip | go_guarded | go_step | go_upon))
  go_end0
  exact ⟨rfl, v3, H3.out, b4⟩

theorem run_tobits (x : Nat) (w : World) : (callFunc 40 #[.float .f64 x]).run Tryd.prog w = .ok (.value (.int .u64 (x : Int))) w := by
  rw [run_callFunc_extern Tryd.func40 (by kernel_rfl) (by kernel_rfl) (by kernel_rfl) (e := Extern.MathFloatBits.float64bits) (by kernel_rfl)]
  rfl

/-- the bytes of a number in turn -/
def revb : Nat → Nat → Nat
  | 0, _ => 0
  | k + 1, u => revb k u * 256 + u / 256 ^ k % 256

theorem revb_lt : ∀ (k u : Nat), revb k u < 256 ^ k
  | 0, _ => by simp [revb]
  | k + 1, u => by
    have := revb_lt k u
    simp only [revb, Nat.pow_succ]
    have : u / 256 ^ k % 256 < 256 := Nat.mod_lt _ (by omega)
    omega

theorem and255 (x : Nat) (hx : x < 18446744073709551616) : bits .and .u64 (x : Int) 255 = ((x % 256 : Nat) : Int) := and_low x 8 hx (by decide)
theorem or256 (a r : Nat) (ha : a * 256 < 18446744073709551616) (hr : r < 256) : bits .or .u64 ((a : Int) * 256) (r : Int) = (a : Int) * 256 + r := by
  have := u64_or_nat (a * 256) r ha (by omega)
  rw [show ((a * 256 : Nat) : Int) = (a : Int) * 256 by omega] at this
  rw [this, Nat.mul_comm a 256]
  have h := Nat.two_pow_add_eq_or_of_lt (i := 8) (b := r) (by omega) a
  rw [show (2 : Nat) ^ 8 = 256 from rfl] at h
  rw [← h]
  omega

set_option maxRecDepth 100000 in
set_option maxHeartbeats 2000000 in
theorem encFloat_any (p u : Nat) (g : Nat) (bs : List UInt8) (v : Value) (W : World) (hp : p < 200) (hu : u < 18446744073709551616) (hl : bs.length ≤ 800000000) (hB : Buf W g bs v) :
    Calls Tryd.prog 50 #[.int .u8 (p : Int), .float .f64 u, .pointer (some ⟨g, 0, none⟩)] W fun e w' => e = .returned (.tuple #[]) ∧ ∃ v', Buf w' g (bs ++ (if revb 8 u = 0 then [UInt8.ofNat p] else UInt8.ofNat (p + nb (revb 8 u)) :: be (nb (revb 8 u)) (revb 8 u))) v' ∧ Below g W w' := by
  have hfb := run_tobits
  have HB := Lib.hid hB
  clear hB
  have hr := revb_lt 8 u
  rw [show 256 ^ 8 = 18446744073709551616 from rfl] at hr
  obtain ⟨n, hN⟩ : ∃ n, revb 8 u = n := ⟨_, rfl⟩
  rw [hN] at hr ⊢
  have HN := Lib.hid hN
  clear hN
  obtain ⟨m, hM⟩ : ∃ m, nb n = m := ⟨_, rfl⟩
  rw [hM]
  have HM := Lib.hid hM
  clear hM
  go_enter Tryd.func50, Tryd.ntmps50
  (repeat (first | go_values | go_skip | go_guarded | go_step | go_upon))
  go_loopw [6, 7, 8] (fun a b i wr => ∃ k : Nat, k ≤ 8 ∧ i = .int .i64 k ∧ a = .int .u64 ((u / 256 ^ k : Nat) : Int) ∧ b = .int .u64 ((revb k u : Nat) : Int) ∧ wr = W) (fun _ _ i _ => 8 - (intOf i).toNat)
  case atStart => exact ⟨0, by omega, rfl, by simp, rfl, rfl⟩
  case round =>
    obtain ⟨k, hk, rfl, rfl, rfl, rfl⟩ := hrel
    by_cases hlt : k < 8
    · have h1 : u / 256 ^ k < 18446744073709551616 := Nat.lt_of_le_of_lt (Nat.div_le_self _ _) hu
      have h2 : revb k u < 72057594037927936 := by
        refine Nat.lt_of_lt_of_le (revb_lt k u) ?_
        exact Nat.le_trans (Nat.pow_le_pow_right (by omega) (show k ≤ 7 by omega)) (by decide)
      have e1 : u / 256 ^ (k + 1) = u / 256 ^ k / 256 := by rw [Nat.pow_succ, Nat.div_div_eq_div_mul]
      have e2 : revb (k + 1) u = revb k u * 256 + u / 256 ^ k % 256 := rfl
      have E1 := Lib.hid e1
      have E2 := Lib.hid e2
      clear e1 e2
      generalize u / 256 ^ k = x at *
      generalize revb k u = y at *
      have h3 := and255 x h1
      have h4 := or256 y (x % 256) (by omega) (by omega)
      rw [show ((x % 256 : Nat) : Int) = (x : Int) % 256 by omega] at h3 h4
      (repeat (first | go_values | go_skip | go_guarded | go_step | go_upon))
      go_roundw
      case rel => exact ⟨k + 1, by omega, by go_num, by rw [E1.out]; go_num, by rw [E2.out]; go_num, trivial⟩
      case measure => simp [intOf]; omega
    · obtain rfl : k = 8 := by omega
      (repeat (first | go_values | go_skip | go_guarded | go_step | go_upon))
      rw [HN.out]
      refine (bitlen_any n wr hr).mono ?_
      rintro e w1 ⟨L, rfl, rfl, h1, h2⟩
      have hb := nb_le n hr
      have HP := Lib.hid (fun q hq => encPrefix_any q n g bs v w1 hq hr hl HB.out)
      rw [HM.out] at h2 hb HP
      by_cases hn : n = 0
      · obtain rfl := h1 hn
        clear h1 h2 HP
        have hcell := HB.out.cell
        have HO := Lib.hid HB.out.own
        have hc := (cells_at hcell).1
        obtain ⟨i0, hi, hz0, hz1, hz2⟩ := info_parts info5
        have hgs : g < w1.heap.size := by
          rcases Nat.lt_or_ge g w1.heap.size with h | h
          · exact h
          · simp [Array.getElem?_eq_none h] at hcell
        clear HB
        dsimp only
        (repeat (first | (at_builtin; refine wpList_append_own _ rfl (.tmp 31) (.tmp 33) 27 rfl (g + 1) 5 i0 _ 1 1 Tryd.underlying27 hi hz0 hz1 hz2 rfl (by decide) _ bs.length (u8s bs) rfl ?own ⟨w1.heap.size, 0, none⟩ 1 1 [_] rfl rfl (by exact fun j u hj => (cell_new w1 5 _ j).trans hj) ?c2 ?c3 ?c4 ?c5 ?_) | go_values | go_skip | go_guarded | go_step | go_upon))
        case own => exact HO.out.alloc _
        case c2 => intro u hu; simp at hu; rcases hu with rfl; rfl
        case c3 => unfold maxLen; omega
        case c4 => omega
        case c5 => show g + 1 ≤ (w1.alloc _).heap.size; simp; omega
        intro v' w2 hown hgrow _
        have hgw : w2.heap[g]? = some (.cells #[v] 27) := by
          rw [hgrow.block g (by simp; omega) (fun h => by have := (HO.out.lt g h.symm).1; omega), heap_alloc_old _ _ hgs]
          exact hcell
        obtain ⟨hc1, hf1⟩ := cells_at hgw
        obtain ⟨va, vc, rfl⟩ := ownsRow_slice hown
        have HOWN := Lib.hid hown
        have HG := Lib.hid hgrow
        clear hown hgrow
        (repeat (first | go_values | go_skip | go_guarded | go_step | go_upon))
        obtain ⟨b1, b2⟩ := Buf.grow (news := [UInt8.ofNat p]) ⟨hcell, HO.out⟩ HOWN.out HG.out (by simp) (by
          have : ((UInt8.ofNat p).toNat : Int) = p := by rw [UInt8.toNat_ofNat']; omega
          unfold u8s; rw [List.map_append, List.map_cons, List.map_nil, this])
        exact bodyPost_ret (results_none rfl _ _ _) rfl ⟨rfl, _, by rw [if_pos hn]; exact b1, b2⟩
      · have h3 := h2 (by omega)
        have g1 : (L == 0) = false := by rw [beq_eq_false_iff_ne]; omega
        have g2 : (L - 1) / 8 = (m : Int) - 1 := by omega
        have g3 : 1 ≤ L ∧ L ≤ 64 := by omega
        obtain ⟨g4, g5⟩ := g3
        clear h1 h2 h3 HB
        dsimp only
        (repeat (first | go_values | go_skip | go_guarded | go_step | go_upon))
        rw [show (p : Int) + 1 + ((m : Int) - 1) = ((p + m : Nat) : Int) by omega]
        refine (HP.out (p + m) (by omega)).mono ?_
        rintro e w3 ⟨rfl, v3, b3, b4⟩
        have H3 := Lib.hid b3
        clear b3
        dsimp only
        (repeat (first | go_values | go_skip | go_guarded | go_step | go_upon))
        go_end0
        exact ⟨rfl, v3, by rw [if_neg hn]; exact H3.out, b4⟩

/-- the bytes of a float -/
def encF (p u : Nat) : List UInt8 := if revb 8 u = 0 then [UInt8.ofNat p] else UInt8.ofNat (p + nb (revb 8 u)) :: be (nb (revb 8 u)) (revb 8 u)

theorem encF_length (p u : Nat) : (encF p u).length ≤ 9 := by
  unfold encF
  split
  · simp
  · have := nb_le (revb 8 u) (by have := revb_lt 8 u; omega)
    simp [be_length]; omega

set_option maxHeartbeats 1000000 in
theorem encComplex_any (x y : Nat) (g : Nat) (bs : List UInt8) (v : Value) (W : World) (hx : x < 18446744073709551616) (hy : y < 18446744073709551616) (hl : bs.length ≤ 700000000) (hB : Buf W g bs v) :
    Calls Tryd.prog 32 #[.complex .f64 x y, .pointer (some ⟨g, 0, none⟩)] W fun e w' => e = .returned (.tuple #[]) ∧ ∃ v', Buf w' g (bs ++ (encF 12 x ++ encF 12 y)) v' ∧ Below g W w' := by
  have h1 := encFloat_any 12 x g bs v W (by omega) hx (by omega) hB
  rw [show (if revb 8 x = 0 then [UInt8.ofNat 12] else UInt8.ofNat (12 + nb (revb 8 x)) :: be (nb (revb 8 x)) (revb 8 x)) = encF 12 x from rfl] at h1
  have H1 := Lib.hid h1
  have hl2 := encF_length 12 x
  clear h1 hB
  generalize encF 12 x = ex at *
  go_enter Tryd.func32, Tryd.ntmps32
  (repeat (first | go_values | go_skip | go_guarded | go_step | go_upon))
  refine H1.out.mono ?_
  rintro e w1 ⟨rfl, v1, b1, hb1⟩
  have h2 := encFloat_any 12 y g (bs ++ ex) v1 w1 (by omega) hy (by simp; omega) b1
  rw [show (if revb 8 y = 0 then [UInt8.ofNat 12] else UInt8.ofNat (12 + nb (revb 8 y)) :: be (nb (revb 8 y)) (revb 8 y)) = encF 12 y from rfl] at h2
  have H2 := Lib.hid h2
  clear h2 b1 H1
  dsimp only
  (repeat (first | go_values | go_skip | go_guarded | go_step | go_upon))
  refine H2.out.mono ?_
  rintro e w2 ⟨rfl, v2, b2, hb2⟩
  have H3 := Lib.hid b2
  clear b2 H2
  dsimp only
  (repeat (first | go_values | go_skip | go_guarded | go_step | go_upon))
  go_end0
  exact ⟨rfl, v2, by rw [← List.append_assoc]; exact H3.out, hb1.trans hb2⟩

end Go.Proofs.YtaoonpncnahhgaaDoor
