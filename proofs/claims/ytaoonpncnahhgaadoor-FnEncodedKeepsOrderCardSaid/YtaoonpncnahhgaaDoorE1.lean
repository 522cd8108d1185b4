/-
  encInt of a small number.
-/
import Derived.Test.YtaoonpncnahhgaaDoorC10
namespace Go.Proofs.YtaoonpncnahhgaaDoor
open Go.RowKit

abbrev u8s (bs : List UInt8) : List Value := bs.map fun x => .int .u8 (x.toNat : Int)

/-- a variable of bytes in block g holds these -/
structure Buf (W : World) (g : Nat) (bs : List UInt8) (v : Value) : Prop where
  cell : W.heap[g]? = some (.cells #[v] 27)
  own : W.ownsRow (g + 1) 5 1 v bs.length (u8s bs)

theorem ownsRow_slice {w : World} {base : Nat} {e : TypeId} {size : Nat} {v : Value} {n : Nat} {xs : List Value} (h : w.ownsRow base e size v n xs) : ∃ a c, v = .slice a n c := by
  rcases h.2 with ⟨rfl, rfl⟩ | ⟨g, cap, cur, rfl, -⟩
  · exact ⟨_, _, rfl⟩
  · exact ⟨_, _, rfl⟩
theorem cell_new (W : World) (t : TypeId) (cs : List Value) (j : Nat) : (W.alloc (.cells cs.toArray t)).cell? ((⟨W.heap.size, 0, none⟩ : Addr).add j) = cs[j]? := cell_new_list W cs t 0 j

theorem grownBy_setCell (w : World) (g : Nat) (v : Value) : w.grownBy (w.setCell ⟨g, 0, none⟩ v) (some g) :=
  ⟨rfl, rfl, rfl, by simp [World.setCell], fun k _ hne => Below.heap_setCell _ _ _ _ (fun h => hne (congrArg some h))⟩

/-- behind an append and a store into the variable -/
theorem Buf.grow {W w1 : World} {g : Nat} {bs news : List UInt8} {v v' : Value} {o : Obj} {xs : List Value} {k : Nat} (h : Buf W g bs v) (hown : w1.ownsRow (g + 1) 5 1 v' k xs) (hgrow : (W.alloc o).grownBy w1 v.ownBlock)
    (hk : k = (bs ++ news).length) (hx : xs = u8s (bs ++ news)) : Buf (w1.setCell ⟨g, 0, none⟩ v') g (bs ++ news) v' ∧ Below g W (w1.setCell ⟨g, 0, none⟩ v') := by
  subst hk hx
  have hgs : g < W.heap.size := by
    rcases Nat.lt_or_ge g W.heap.size with h' | h'
    · exact h'
    · have := h.cell
      simp [Array.getElem?_eq_none h'] at this
  have hne : ∀ k, k ≤ g → some k ≠ v.ownBlock := fun k hk h' => by have := (h.own.lt k h'.symm).1; omega
  have hold : ∀ k, k ≤ g → w1.heap[k]? = W.heap[k]? := fun k hk => by
    rw [hgrow.block k (by simp; omega) (hne k hk), heap_alloc_old _ _ (by omega)]
  refine ⟨⟨?_, hown.kept (grownBy_setCell w1 g v') ?_⟩, ?_⟩
  · have := (hold g (Nat.le_refl _)).trans h.cell
    simp [World.setCell, Array.getElem?_modify, this]
  · exact .inr (fun e => by have := (hown.lt g e).1; omega)
  · exact ⟨hgrow.os, hgrow.tape, hgrow.output, by have := hgrow.size; simp [World.setCell] at this ⊢; omega, fun k hk => by rw [Below.heap_setCell _ _ _ _ (by show k ≠ g; omega), hold k (by omega)]⟩

set_option maxRecDepth 100000 in
set_option maxHeartbeats 2000000 in
theorem encInt_small (n : Int) (g : Nat) (bs : List UInt8) (v : Value) (W : World) (h0 : 0 ≤ n) (h1 : n ≤ 170) (hl : bs.length ≤ 100000000) (hB : Buf W g bs v) :
    Calls Tryd.prog 35 #[.int .i64 n, .pointer (some ⟨g, 0, none⟩)] W fun e w' => e = .returned (.tuple #[]) ∧ ∃ v', Buf w' g (bs ++ [UInt8.ofNat (n + 85).toNat]) v' ∧ Below g W w' := by
  obtain ⟨i0, hi, hz0, hz1, hz2⟩ := info_parts info5
  have hc := (cells_at hB.cell).1
  have hcell := hB.cell
  have hgs : g < W.heap.size := by
    rcases Nat.lt_or_ge g W.heap.size with h | h
    · exact h
    · simp [Array.getElem?_eq_none h] at hcell
  have HO := Lib.hid hB.own
  clear hB
  have g1 : decide (n < -72057594037927936) = false := by simp; omega
  have g2 : decide (n < -281474976710656) = false := by simp; omega
  have g3 : decide (n < -1099511627776) = false := by simp; omega
  have g4 : decide (n < -4294967296) = false := by simp; omega
  have g5 : decide (n < -16777216) = false := by simp; omega
  have g6 : decide (n < -65536) = false := by simp; omega
  have g7 : decide (n < -256) = false := by simp; omega
  have g8 : decide (n < 0) = false := by simp; omega
  have g9 : decide (n ≤ 170) = true := by simp; omega
  go_enter Tryd.func35, Tryd.ntmps35
  (repeat (first | (at_builtin; refine wpList_append_own _ rfl (.tmp 190) (.tmp 194) 27 rfl (g + 1) 5 i0 _ 1 1 Tryd.underlying27 hi hz0 hz1 hz2 rfl (by decide) _ bs.length (u8s bs) rfl ?own ⟨W.heap.size, 0, none⟩ 1 1 [.int .u8 (85 + n)] rfl rfl ?c1 ?c2 ?c3 ?c4 ?c5 ?_) | go_values | go_skip | go_guarded | go_step | go_upon))
  case own => exact HO.out.alloc _
  case c1 =>
    exact fun j u hj => (cell_new W 5 _ j).trans hj
  case c2 => intro u hu; simp at hu; subst hu; rfl
  case c3 => unfold maxLen; omega
  case c4 => omega
  case c5 => show g + 1 ≤ (W.alloc _).heap.size; simp; omega
  intro v' w1 hown hgrow _
  have hgw : w1.heap[g]? = some (.cells #[v] 27) := by
    rw [hgrow.block g (by simp; omega) (fun h => by have := (HO.out.lt g h.symm).1; omega), heap_alloc_old _ _ hgs]
    exact hcell
  obtain ⟨hc1, hf1⟩ := cells_at hgw
  obtain ⟨va, vc, rfl⟩ := ownsRow_slice hown
  have HOWN := Lib.hid hown
  have HG := Lib.hid hgrow
  clear hown hgrow
  (repeat (first | go_values | go_skip | go_guarded | go_step | go_upon))
  go_end0
  obtain ⟨b1, b2⟩ := Buf.grow (news := [UInt8.ofNat (n + 85).toNat]) ⟨hcell, HO.out⟩ HOWN.out HG.out (by simp) (by
    have : ((UInt8.ofNat (n + 85).toNat).toNat : Int) = 85 + n := by
      rw [UInt8.toNat_ofNat']; omega
    unfold u8s; rw [List.map_append, List.map_cons, List.map_nil, this])
  exact ⟨rfl, _, b1, b2⟩

end Go.Proofs.YtaoonpncnahhgaaDoor
