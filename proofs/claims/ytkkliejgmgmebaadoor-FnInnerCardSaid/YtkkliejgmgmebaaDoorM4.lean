/-
  ZZMem.ReadAt.
-/
import Derived.Test.YtkkliejgmgmebaaDoorM3
namespace Go.Proofs.YtkkliejgmgmebaaDoor
open Go.RowKit

/-- all that is there but one block -/
abbrev But (w : World) (g : Nat) : Nat → Prop := fun k => k < w.heap.size ∧ k ≠ g

set_option maxRecDepth 100000 in
set_option maxHeartbeats 1000000 in
theorem zread_out (Pr : Nat → Prop) (w : World) (gz gb : Nat) (v : Value) (bs : List UInt8) (a b : Addr) (bn bc off : Nat) (hv : Vars Pr w a b) (h : ZIs Pr w gz v bs) (hout : bs.length ≤ off) :
    Calls Tryd.prog 45 #[.pointer (some ⟨gz, 0, none⟩), .slice (some ⟨gb, 0, none⟩) bn bc, .int .i64 (off : Int)] w fun e w' => e = .returned (.tuple #[.int .i64 0, .iface 85 (.pointer (some a))]) ∧ ∃ q, w' = w.drewN q := by
  obtain ⟨c0, c2, f0⟩ := h.cells
  obtain ⟨va, vc, rfl, hvc, -⟩ := h.row.slice
  have e0 := hv.e0
  clear h hv
  go_enter Tryd.func45, Tryd.ntmps45
  (repeat (first | go_values | go_skip | go_guarded | go_step | go_upon))
  go_quiet (fail)
  (repeat (first | go_values | go_skip | go_guarded | go_step | go_upon))
  go_ret2
  exact ⟨rfl, _, rfl⟩

set_option maxRecDepth 100000 in
set_option maxHeartbeats 1000000 in
theorem zread_short (Pr Pq : Nat → Prop) (w : World) (gz gb : Nat) (v : Value) (bs : List UInt8) (xs : List Value) (a b : Addr) (bn bc off d : Nat) (hv : Vars Pr w a b) (h : ZIs Pr w gz v bs) (hb : Row Pq w 5 1 (.slice (some ⟨gb, 0, none⟩) bn bc) bn xs) (hgb : Pr gb → False) (hin : off < bs.length) (hn : 0 < bn) (hn2 : bn ≤ 1000000) (hd : min (bs.length - off) bn = d) (hs : d < bn) :
    Calls Tryd.prog 45 #[.pointer (some ⟨gz, 0, none⟩), .slice (some ⟨gb, 0, none⟩) bn bc, .int .i64 (off : Int)] w fun e w' =>
      e = .returned (.tuple #[.int .i64 (d : Int), .iface 85 (.pointer (some a))]) ∧ ∃ q w2, w' = World.drewN w2 q ∧ Row Pq w2 5 1 (.slice (some ⟨gb, 0, none⟩) bn bc) bn (splice xs 0 (u8s ((bs.drop off).take d))) ∧ Keeps (But w gb) w w2 := by
  obtain ⟨c0, c2, f0⟩ := h.cells
  obtain ⟨gd, vc, rfl, hvc, -⟩ := h.row.opened (by omega)
  have e0 := hv.e0
  have x1 : (off : Int) ≤ bs.length := by omega
  have x0 : (0 : Int) ≤ off := by omega
  have hne : ¬ vc = off := by omega
  have HV := Lib.hid hv
  have H := Lib.hid h
  have HB := Lib.hid hb
  have HD := Lib.hid hd
  clear h hv hb hd
  go_enter Tryd.func45, Tryd.ntmps45
  (repeat (first | go_values | go_skip | go_guarded | go_step | go_upon))
  have r := H.out.row.piece off (bs.length - off) (by omega)
  rw [if_neg hne, u8s_piece, List.take_of_length_le (by rw [List.length_drop]; exact Nat.le_refl _)] at r
  have ha : (⟨gd, 0, none⟩ : Addr).add off = ⟨gd, off, none⟩ := by unfold Addr.add; split <;> simp_all
  rw [Option.map_some, ha] at r
  obtain ⟨w2, hrun, hr2, hg2⟩ := run_copy_rv (P := Tryd.prog) HB.out 22 22 3 Tryd.underlying22 (by kernel_rfl) (off := 0) (dl := bn) (dcap := bc) (by omega) _ (bs.length - off) (vc - off) _ r (one_u8s _) (by omega)
  have hk2 : Keeps (But w gb) w w2 := Keeps.grown (fun k h => h.1) hg2 (fun k e h => by cases e; exact h.2 rfl)
  rw [← List.map_take, HD.out] at hr2
  rw [HD.out] at hrun
  have e0' : w2.cell? ⟨0, 0, none⟩ = some (.iface 85 (.pointer (some a))) := (hk2.cell (a := ⟨0, 0, none⟩) ⟨block_lt_of_cell e0, fun e => hgb (by rw [← e]; exact HV.out.p0)⟩).trans e0
  have hdl : d ≤ bn := by have := HD.out; omega
  rw [hrun]
  have HR := Lib.hid hr2
  have HK := Lib.hid hk2
  clear hrun hr2 hk2 r ha hg2 e0 c0 c2 f0 hin
  (repeat (first | go_values | go_skip | go_guarded | go_step | go_upon))
  go_quiet (fail)
  (repeat (first | go_values | go_skip | go_guarded | go_step | go_upon))
  go_ret2
  exact ⟨rfl, _, w2, rfl, HR.out, HK.out⟩

set_option maxRecDepth 100000 in
set_option maxHeartbeats 1000000 in
theorem zread_full (Pr Pq : Nat → Prop) (w : World) (gz gb : Nat) (v : Value) (bs : List UInt8) (xs : List Value) (a b : Addr) (bn bc off d : Nat) (hv : Vars Pr w a b) (h : ZIs Pr w gz v bs) (hb : Row Pq w 5 1 (.slice (some ⟨gb, 0, none⟩) bn bc) bn xs) (hgb : Pr gb → False) (hin : off < bs.length) (hn : 0 < bn) (hn2 : bn ≤ 1000000) (hd : min (bs.length - off) bn = d) (hs : d = bn) :
    Calls Tryd.prog 45 #[.pointer (some ⟨gz, 0, none⟩), .slice (some ⟨gb, 0, none⟩) bn bc, .int .i64 (off : Int)] w fun e w' =>
      e = .returned (.tuple #[.int .i64 (d : Int), .nilIface]) ∧ ∃ q w2, w' = World.drewN w2 q ∧ Row Pq w2 5 1 (.slice (some ⟨gb, 0, none⟩) bn bc) bn (splice xs 0 (u8s ((bs.drop off).take d))) ∧ Keeps (But w gb) w w2 := by
  obtain ⟨c0, c2, f0⟩ := h.cells
  obtain ⟨gd, vc, rfl, hvc, -⟩ := h.row.opened (by omega)
  have e0 := hv.e0
  have x1 : (off : Int) ≤ bs.length := by omega
  have x0 : (0 : Int) ≤ off := by omega
  have hne : ¬ vc = off := by omega
  have HV := Lib.hid hv
  have H := Lib.hid h
  have HB := Lib.hid hb
  have HD := Lib.hid hd
  clear h hv hb hd
  go_enter Tryd.func45, Tryd.ntmps45
  (repeat (first | go_values | go_skip | go_guarded | go_step | go_upon))
  have r := H.out.row.piece off (bs.length - off) (by omega)
  rw [if_neg hne, u8s_piece, List.take_of_length_le (by rw [List.length_drop]; exact Nat.le_refl _)] at r
  have ha : (⟨gd, 0, none⟩ : Addr).add off = ⟨gd, off, none⟩ := by unfold Addr.add; split <;> simp_all
  rw [Option.map_some, ha] at r
  obtain ⟨w2, hrun, hr2, hg2⟩ := run_copy_rv (P := Tryd.prog) HB.out 22 22 3 Tryd.underlying22 (by kernel_rfl) (off := 0) (dl := bn) (dcap := bc) (by omega) _ (bs.length - off) (vc - off) _ r (one_u8s _) (by omega)
  have hk2 : Keeps (But w gb) w w2 := Keeps.grown (fun k h => h.1) hg2 (fun k e h => by cases e; exact h.2 rfl)
  rw [← List.map_take, HD.out] at hr2
  rw [HD.out] at hrun
  have e0' : w2.cell? ⟨0, 0, none⟩ = some (.iface 85 (.pointer (some a))) := (hk2.cell (a := ⟨0, 0, none⟩) ⟨block_lt_of_cell e0, fun e => hgb (by rw [← e]; exact HV.out.p0)⟩).trans e0
  have hdl : d ≤ bn := by have := HD.out; omega
  rw [hrun]
  have HR := Lib.hid hr2
  have HK := Lib.hid hk2
  clear hrun hr2 hk2 r ha hg2 e0 c0 c2 f0 hin
  (repeat (first | go_values | go_skip | go_guarded | go_step | go_upon))
  go_ret2
  exact ⟨by rw [hs]; rfl, 0, w2, rfl, HR.out, HK.out⟩

end Go.Proofs.YtkkliejgmgmebaaDoor
