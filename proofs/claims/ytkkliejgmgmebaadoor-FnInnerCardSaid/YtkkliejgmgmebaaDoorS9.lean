/-
  File.Read.
-/
import Derived.Test.YtkkliejgmgmebaaDoorS8
namespace Go.Proofs.YtkkliejgmgmebaaDoor
open Go.RowKit

/-- a piece of an owned row reads -/
theorem Row.piece {Pr : Nat → Prop} {w : World} {e : TypeId} {a : Option Addr} {l c : Nat} {xs : List Value} (h : Row Pr w e 1 (.slice a l c) l xs) (k m : Nat) (hm : k + m ≤ l) : Rv (Old w) w (if c = k then a else Option.map (fun x => x.add k) a) m ((xs.drop k).take m) := by
  refine ⟨by rw [List.length_take, List.length_drop, h.1]; omega, ?_⟩
  rcases Nat.eq_zero_or_pos m with rfl | h0
  · exact .inl (by simp)
  · obtain ⟨g, cap, e1, hc, -, ⟨cur, hg⟩, hcell, -⟩ := h.opened (by omega)
    simp only [Value.slice.injEq] at e1
    obtain ⟨rfl, -, rfl⟩ := e1
    rw [if_neg (by omega)]
    have ha : (⟨g, 0, none⟩ : Addr).add k = ⟨g, k, none⟩ := by unfold Addr.add; split <;> simp_all
    refine .inr ⟨g, k, by rw [Option.map_some, ha], lt_of_heap hg, fun i x hx => ?_⟩
    have hi : i < m := by
      have := (List.getElem?_eq_some_iff.1 hx).1
      rw [List.length_take] at this; omega
    rw [List.getElem?_take_of_lt hi, List.getElem?_drop] at hx
    rw [hcell (k + i) (by omega), hx]

theorem u8s_piece (bs : List UInt8) (k m : Nat) : ((u8s bs).drop k).take m = u8s ((bs.drop k).take m) := by rw [← List.map_drop, ← List.map_take]
theorem bls_piece (bs : List Bool) (k m : Nat) : ((bls bs).drop k).take m = bls ((bs.drop k).take m) := by rw [← List.map_drop, ← List.map_take]

set_option maxRecDepth 100000 in
set_option maxHeartbeats 4000000 in
theorem read_A (Pr : Nat → Prop) (g : Nat) (vd vk vw : Value) (F : Fl) (w : World) (off n : Nat) (h : FileIs Pr w g vd vk vw F) (hl : F.d.length ≤ 100000000) (hon : off ≤ 1000000) (hn : n ≤ 1000000) (ho : off + n ≤ F.d.length) :
    Calls Tryd.prog 22 #[.pointer (some ⟨g, 0, none⟩), .int .i64 (off : Int), .int .i64 (n : Int)] w fun e w' => ∃ a1 c1 a2 c2 q, e = .returned (.tuple #[.slice a1 n c1, .slice a2 n c2]) ∧ w' = w.drewN q ∧ n ≤ c1 ∧ n ≤ c2 ∧
      Rd (Old w) w a1 n ((F.d.drop off).take n) ∧ Rv (Old w) w a2 n (bls ((F.k.drop off).take n)) := by
  obtain ⟨c0, c1, -⟩ := h.cells
  obtain ⟨a, ca, rfl, hca, -⟩ := h.v.rd.slice
  obtain ⟨b, cb, rfl, hcb, -⟩ := h.v.rk.slice
  have H := Lib.hid h
  clear h
  go_enter Tryd.func22, Tryd.ntmps22
  (repeat (first | go_values | go_skip | go_guarded | go_step | go_upon))
  have x1 : (0 : Int) ≤ (off : Nat) := by omega
  have x2 : ((off : Nat) : Int) ≤ ((off + n : Nat) : Int) := by omega
  have x3 : ((off + n : Nat) : Int) ≤ ca := by omega
  have x4 : ((off + n : Nat) : Int) ≤ cb := by omega
  refine wp_blind ?_
  go_region
  simp only [onlyNormal]
  (repeat (first | go_values | go_skip | go_guarded | go_step | go_upon))
  go_ret2
  have r1 := H.out.v.rd.piece off n (by omega)
  have r2 := H.out.v.rk.piece off n (by omega)
  rw [u8s_piece] at r1
  rw [bls_piece] at r2
  exact ⟨_, _, _, _, 1, by rw [Nat.add_sub_cancel_left]; rfl, rfl, by omega, by omega, r1.rd, r2⟩

set_option maxRecDepth 100000 in
set_option maxHeartbeats 4000000 in
theorem read_B (Pr : Nat → Prop) (g : Nat) (vd vk vw : Value) (F : Fl) (w : World) (off n : Nat) (h : FileIs Pr w g vd vk vw F) (hl : F.d.length ≤ 100000000) (hon : off ≤ 1000000) (hn : n ≤ 1000000) (ho : off ≤ F.d.length) (ho2 : F.d.length < off + n) :
    Calls Tryd.prog 22 #[.pointer (some ⟨g, 0, none⟩), .int .i64 (off : Int), .int .i64 (n : Int)] w fun e w' => ∃ a1 c1 a2 c2 q, e = .returned (.tuple #[.slice a1 (F.d.length - off) c1, .slice a2 (F.d.length - off) c2]) ∧ w' = w.drewN q ∧ (F.d.length - off) ≤ c1 ∧ (F.d.length - off) ≤ c2 ∧
      Rd (Old w) w a1 (F.d.length - off) ((F.d.drop off).take (F.d.length - off)) ∧ Rv (Old w) w a2 (F.d.length - off) (bls ((F.k.drop off).take (F.d.length - off))) := by
  obtain ⟨c0, c1, -⟩ := h.cells
  obtain ⟨a, ca, rfl, hca, -⟩ := h.v.rd.slice
  obtain ⟨b, cb, rfl, hcb, -⟩ := h.v.rk.slice
  have H := Lib.hid h
  clear h
  go_enter Tryd.func22, Tryd.ntmps22
  (repeat (first | go_values | go_skip | go_guarded | go_step | go_upon))
  have x1 : (0 : Int) ≤ (off : Nat) := by omega
  have x2 : ((off : Nat) : Int) ≤ ((F.d.length : Nat) : Int) := by omega
  have x3 : ((F.d.length : Nat) : Int) ≤ ca := by omega
  have x4 : ((F.d.length : Nat) : Int) ≤ cb := by omega
  refine wp_blind ?_
  go_region
  simp only [onlyNormal]
  (repeat (first | go_values | go_skip | go_guarded | go_step | go_upon))
  go_ret2
  have r1 := H.out.v.rd.piece off (F.d.length - off) (by omega)
  have r2 := H.out.v.rk.piece off (F.d.length - off) (by omega)
  rw [u8s_piece] at r1
  rw [bls_piece] at r2
  exact ⟨_, _, _, _, 1, by rfl, rfl, by omega, by omega, r1.rd, r2⟩

set_option maxRecDepth 100000 in
set_option maxHeartbeats 4000000 in
theorem read_C (Pr : Nat → Prop) (g : Nat) (vd vk vw : Value) (F : Fl) (w : World) (off n : Nat) (h : FileIs Pr w g vd vk vw F) (hl : F.d.length ≤ 100000000) (hon : off ≤ 1000000) (hn : n ≤ 1000000) (ho : F.d.length < off) :
    Calls Tryd.prog 22 #[.pointer (some ⟨g, 0, none⟩), .int .i64 (off : Int), .int .i64 (n : Int)] w fun e w' => ∃ a1 c1 a2 c2 q, e = .returned (.tuple #[.slice a1 0 c1, .slice a2 0 c2]) ∧ w' = w.drewN q ∧ 0 ≤ c1 ∧ 0 ≤ c2 ∧
      Rd (Old w) w a1 0 ((F.d.drop F.d.length).take 0) ∧ Rv (Old w) w a2 0 (bls ((F.k.drop F.d.length).take 0)) := by
  obtain ⟨c0, c1, -⟩ := h.cells
  obtain ⟨a, ca, rfl, hca, -⟩ := h.v.rd.slice
  obtain ⟨b, cb, rfl, hcb, -⟩ := h.v.rk.slice
  have H := Lib.hid h
  clear h
  go_enter Tryd.func22, Tryd.ntmps22
  (repeat (first | go_values | go_skip | go_guarded | go_step | go_upon))
  have x1 : (0 : Int) ≤ (F.d.length : Nat) := by omega
  have x2 : ((F.d.length : Nat) : Int) ≤ ((F.d.length : Nat) : Int) := by omega
  have x3 : ((F.d.length : Nat) : Int) ≤ ca := by omega
  have x4 : ((F.d.length : Nat) : Int) ≤ cb := by omega
  refine wp_blind ?_
  go_region
  simp only [onlyNormal]
  (repeat (first | go_values | go_skip | go_guarded | go_step | go_upon))
  go_ret2
  have r1 := H.out.v.rd.piece F.d.length 0 (by omega)
  have r2 := H.out.v.rk.piece F.d.length 0 (by omega)
  rw [u8s_piece] at r1
  rw [bls_piece] at r2
  exact ⟨_, _, _, _, 1, by rfl, rfl, by omega, by omega, r1.rd, r2⟩


/-- the bytes from off on, at most n -/
theorem read_any (Pr : Nat → Prop) (g : Nat) (vd vk vw : Value) (F : Fl) (w : World) (off n : Nat) (h : FileIs Pr w g vd vk vw F) (hl : F.d.length ≤ 100000000) (hon : off ≤ 1000000) (hn : n ≤ 1000000) :
    Calls Tryd.prog 22 #[.pointer (some ⟨g, 0, none⟩), .int .i64 (off : Int), .int .i64 (n : Int)] w fun e w' => ∃ m a1 c1 a2 c2 q, e = .returned (.tuple #[.slice a1 m c1, .slice a2 m c2]) ∧ w' = w.drewN q ∧ m ≤ c1 ∧ m ≤ c2 ∧
      Rd (Old w) w a1 m ((F.d.drop off).take n) ∧ Rv (Old w) w a2 m (bls ((F.k.drop off).take n)) := by
  have hk := h.v.lk
  by_cases h1 : off + n ≤ F.d.length
  · exact (read_A Pr g vd vk vw F w off n h hl hon hn h1).mono fun e w' ⟨a1, c1, a2, c2, q, h⟩ => ⟨n, a1, c1, a2, c2, q, h⟩
  by_cases h2 : off ≤ F.d.length
  · refine (read_B Pr g vd vk vw F w off n h hl hon hn h2 (by omega)).mono fun e w' ⟨a1, c1, a2, c2, q, g1, g2, g3, g4, g5, g6⟩ => ⟨_, a1, c1, a2, c2, q, g1, g2, g3, g4, ?_, ?_⟩
    · rw [List.take_of_length_le (by rw [List.length_drop]; omega)] at g5 ⊢
      exact g5
    · rw [List.take_of_length_le (by rw [List.length_drop]; omega)] at g6 ⊢
      exact g6
  · refine (read_C Pr g vd vk vw F w off n h hl hon hn (by omega)).mono fun e w' ⟨a1, c1, a2, c2, q, g1, g2, g3, g4, g5, g6⟩ => ⟨_, a1, c1, a2, c2, q, g1, g2, g3, g4, ?_, ?_⟩
    · rw [List.drop_eq_nil_of_le (by omega), List.take_nil]
      rw [List.take_zero] at g5
      exact g5
    · rw [List.drop_eq_nil_of_le (by omega), List.take_nil]
      rw [List.take_zero] at g6
      exact g6

end Go.Proofs.YtkkliejgmgmebaaDoor
