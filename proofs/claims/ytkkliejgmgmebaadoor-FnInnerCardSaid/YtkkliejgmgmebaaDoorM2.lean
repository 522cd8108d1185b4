/-
  ZZMem.put, WriteAt, Truncate, ReadAt, Stat.
-/
import Derived.Test.YtkkliejgmgmebaaDoorM1
namespace Go.Proofs.YtkkliejgmgmebaaDoor
open Go.RowKit

/-- bytes, written from off on: zeros fill what is missing -/
def wrB (bs : List UInt8) (off : Nat) (xs : List UInt8) : List UInt8 := if xs = [] then bs else splice (bs ++ List.replicate (off + xs.length - bs.length) 0) off xs

theorem wrB_length (bs : List UInt8) (off : Nat) (xs : List UInt8) (h : xs ≠ []) : (wrB bs off xs).length = max bs.length (off + xs.length) := by
  unfold wrB
  rw [if_neg h, splice_length _ _ _ (by simp; omega)]
  simp; omega

/-- behind a store into the variable's slice -/
theorem ZIs.set {Pr : Nat → Prop} {w : World} {gz : Nat} {v v' : Value} {bs' : List UInt8} (h : w.heap[gz]? = some (.cells #[v, .int .i64 0, .pointer none, .bool false] 55 (0, 0))) (nz : ¬ Pr gz) (hr : Row Pr w 5 1 v' bs'.length (u8s bs')) :
    ZIs Pr (w.setCell ⟨gz, 0, none⟩ v') gz v' bs' :=
  ⟨heap_set_same h 0 v', nz, hr.setOther h (by decide) 0 v'⟩

theorem ZIs.grown {Pr : Nat → Prop} {w w' : World} {gz : Nat} {v : Value} {bs : List UInt8} (h : ZIs Pr w gz v bs) (hg : w.drew.grownBy w' v.ownBlock) : w'.heap[gz]? = some (.cells #[v, .int .i64 0, .pointer none, .bool false] 55 (0, 0)) :=
  (hg.block gz (lt_of_heap h.fz) (fun e => h.row.neElem h.fz (by decide) e.symm)).trans h.fz
theorem ZIs.grown1 {Pr : Nat → Prop} {w w' : World} {gz : Nat} {v : Value} {bs : List UInt8} (h : ZIs Pr w gz v bs) (hg : w.drew.grownBy w' v.ownBlock) : w'.cell? ⟨gz, 0, none⟩ = some v ∧ w'.frozen? ⟨gz, 0, none⟩ = false := by
  obtain ⟨h1, h2⟩ := cells_at (h.grown hg)
  exact ⟨h1 0, h2 0⟩

theorem u8s_zeros (m : Nat) : List.replicate m (Value.int .u8 0) = u8s (List.replicate m 0) := by simp [u8s]
theorem u8s_app (xs ys : List UInt8) : u8s xs ++ u8s ys = u8s (xs ++ ys) := by unfold u8s; rw [List.map_append]

theorem splice_map {α β : Type} (f : α → β) (l : List α) (off : Nat) (xs : List α) : (splice l off xs).map f = splice (l.map f) off (xs.map f) := by
  simp only [splice, List.map_append, List.map_take, List.map_drop, List.length_map]

/-- the copy into the file's bytes -/
theorem ZIs.copied {Pr : Nat → Prop} {w : World} {gz gd L vc off n c dcap : Nat} {bs xs : List UInt8} {a : Option Addr} (hin : Inw Pr w) (h : ZIs Pr w gz (.slice (some ⟨gd, 0, none⟩) L vc) bs) (hL : bs.length = L) (hr : Rd Pr w a n xs) (hfit : off + n ≤ L) (hn : 0 < n) :
    ∃ w', (Builtin.copy_ #[22, 22] 3 #[.slice (some ⟨gd, off, none⟩) (L - off) dcap, .slice a n c]).run Tryd.prog w = .ok (goInt (n : Int)) w' ∧ ZIs Pr w' gz (.slice (some ⟨gd, 0, none⟩) L vc) (splice bs off xs) ∧ Keeps Pr w w' := by
  subst hL
  have hmin : min n (bs.length - off) = n := by omega
  obtain ⟨w', hrun, hrow, hg⟩ := run_copy_rv (P := Tryd.prog) h.row 22 22 3 Tryd.underlying22 (by kernel_rfl) (off := off) (dl := bs.length - off) (dcap := dcap) (by omega) a n c (u8s xs) hr.rv (one_u8s xs) (by omega)
  rw [hmin] at hrun hrow
  have hxl : xs.length = n := hr.1
  have e : splice (u8s bs) off ((u8s xs).take n) = u8s (splice bs off xs) := by
    rw [List.take_of_length_le (by rw [List.length_map, hxl]; exact Nat.le_refl _), ← splice_map]
  rw [e] at hrow
  refine ⟨w', hrun, ⟨?_, h.nz, ?_⟩, Keeps.grown hin hg fun k e => ?_⟩
  · exact (hg.block gz (lt_of_heap h.fz) (fun e => h.row.neElem h.fz (by decide) e.symm)).trans h.fz
  · rw [splice_length _ _ _ (by omega)]; exact hrow
  · cases e
    exact (h.row.own (k := gd) rfl).2.1

theorem ZIs.keepsGrown {Pr : Nat → Prop} {w w' : World} {gz : Nat} {v : Value} {bs : List UInt8} (hin : Inw Pr w) (h : ZIs Pr w gz v bs) (hg : w.drew.grownBy w' v.ownBlock) (u : Value) : Keeps Pr w (w'.setCell ⟨gz, 0, none⟩ u) :=
  ((Keeps.drew Pr w).trans (Keeps.grown (w := w.drew) hin hg fun _ hk => (h.row.own hk).2.1)).trans (Keeps.setCell (a := ⟨gz, 0, none⟩) h.nz u)

set_option maxRecDepth 100000 in
set_option maxHeartbeats 4000000 in
/-- the file is made longer by zeros: put's region, Truncate's last one -/
theorem put_grow (Pr : Nat → Prop) (w : World) (gz : Nat) (v : Value) (bs xs : List UInt8) (a : Option Addr) (n c off : Nat) (hin : Inw Pr w) (h : ZIs Pr w gz v bs) (hr : Rd Pr w a n xs) (hn : 0 < n) (hl : bs.length ≤ 10000000) (ho : off ≤ 1000000) (hn2 : n ≤ 1000000) (hgr : bs.length < off + n) :
    Calls Tryd.prog 49 #[.pointer (some ⟨gz, 0, none⟩), .slice a n c, .int .i64 (off : Int)] w fun e w' => e = .returned (.tuple #[]) ∧ ∃ v', ZIs Pr w' gz v' (wrB bs off xs) ∧ Keeps Pr w w' := by
  obtain ⟨i0, hi, hz0, hz1, hz2⟩ := info_parts infoU8
  obtain ⟨m, hm⟩ : ∃ m, off + n = bs.length + m := ⟨off + n - bs.length, by omega⟩
  obtain ⟨c0, c2, f0⟩ := h.cells
  obtain ⟨va, vc, rfl, hvc, -⟩ := h.row.slice
  have e1 : (off : Int) + n - bs.length = m := by omega
  have H := Lib.hid h
  have HR := Lib.hid hr
  have HI := Lib.hid hin
  have HM := Lib.hid hm
  have E1 := Lib.hid e1
  clear h hr hin hm e1
  go_enter Tryd.func49, Tryd.ntmps49
  (repeat (first | go_values | go_skip | go_guarded | go_step | go_upon))
  refine wp_blind ?_
  have e1 := E1.out
  have wm : IntKind.i64.wrap (m : Int) = m := by rw [IntKind.wrap_i64]; omega
  go_region_law (refine step_append_zeros rfl (.tmp 25) (.tmp 32) 22 2 rfl (Pr := Pr) HI.out.new .i64 i0 (.int .u8 0) Tryd.underlying22 Tryd.underlying2 hi hz0 hz1 hz2 rfl rfl H.out.row.drew m rfl rfl (by omega) (fun v' w' hrow hgrow => ?_); obtain ⟨c1, g1⟩ := H.out.grown1 hgrow; obtain ⟨gd, vc', rfl, hvc', -⟩ := hrow.opened (show 0 < bs.length + m by omega); have hne : ¬ vc' = off := (by omega); have HG := Lib.hid hgrow; have HW := Lib.hid hrow; clear hgrow hrow)
  all_goals simp only [onlyNormal]
  all_goals skip
  all_goals (repeat (first | go_values | go_skip | go_guarded | go_step | go_upon))
  all_goals
    have hW := H.out.keepsGrown HI.out HG.out (.slice (some ⟨gd, 0, none⟩) (bs.length + m) vc')
    have hlen : (bs ++ List.replicate m 0).length = bs.length + m := by simp
    have hrw : Row Pr w' 5 1 (.slice (some ⟨gd, 0, none⟩) (bs.length + m) vc') (bs ++ List.replicate m 0).length (u8s (bs ++ List.replicate m 0)) := by
      rw [hlen, ← u8s_app, ← u8s_zeros]; exact HW.out
    have hz := ZIs.set (H.out.grown HG.out) H.out.nz hrw
    obtain ⟨w2, hrun, hz2, hk2⟩ := ZIs.copied (off := off) (n := n) (c := c) (dcap := vc' - off) (a := a) (xs := xs) (HI.out.mono hW.size) hz hlen (HR.out.keeps hW) (by omega) hn
    rw [hrun]
    have HZ := Lib.hid hz2
    have HK := Lib.hid (hW.trans hk2)
    clear hrun hz hz2 hk2 hW hrw
    (repeat (first | go_values | go_skip | go_guarded | go_step | go_upon))
    have e : wrB bs off xs = splice (bs ++ List.replicate m 0) off xs := by
      have := HR.out.1
      have := HM.out
      unfold wrB
      rw [if_neg (by intro h0; subst h0; simp at *; omega), show off + xs.length - bs.length = m by omega]
    rw [← e] at HZ
    exact bodyPost_end (results_none rfl _ _ _) rfl ⟨rfl, _, HZ.out, HK.out⟩

set_option maxRecDepth 100000 in
set_option maxHeartbeats 4000000 in
theorem put_fit (Pr : Nat → Prop) (w : World) (gz : Nat) (v : Value) (bs xs : List UInt8) (a : Option Addr) (n c off : Nat) (hin : Inw Pr w) (h : ZIs Pr w gz v bs) (hr : Rd Pr w a n xs) (hn : 0 < n) (hl : bs.length ≤ 10000000) (hfit : off + n ≤ bs.length) :
    Calls Tryd.prog 49 #[.pointer (some ⟨gz, 0, none⟩), .slice a n c, .int .i64 (off : Int)] w fun e w' => e = .returned (.tuple #[]) ∧ ∃ v', ZIs Pr w' gz v' (wrB bs off xs) ∧ Keeps Pr w w' := by
  obtain ⟨c0, c2, f0⟩ := h.cells
  obtain ⟨gd, vc, rfl, hvc, -⟩ := h.row.opened (by omega)
  have hne : ¬ vc = off := by omega
  have H := Lib.hid h
  have HR := Lib.hid hr
  have HI := Lib.hid hin
  clear h hr hin
  go_enter Tryd.func49, Tryd.ntmps49
  (repeat (first | go_values | go_skip | go_guarded | go_step | go_upon))
  obtain ⟨w2, hrun, hz2, hk2⟩ := ZIs.copied (off := off) (n := n) (c := c) (dcap := vc - off) (a := a) (xs := xs) HI.out H.out rfl HR.out (by omega) hn
  rw [hrun]
  have HZ := Lib.hid hz2
  have HK := Lib.hid hk2
  clear hrun hz2 hk2
  (repeat (first | go_values | go_skip | go_guarded | go_step | go_upon))
  have e : wrB bs off xs = splice bs off xs := by
    have := HR.out.1
    unfold wrB
    rw [if_neg (by intro h0; subst h0; simp at *; omega), show off + xs.length - bs.length = 0 by omega, List.replicate_zero, List.append_nil]
  rw [← e] at HZ
  exact bodyPost_end (results_none rfl _ _ _) rfl ⟨rfl, _, HZ.out, HK.out⟩

end Go.Proofs.YtkkliejgmgmebaaDoor
