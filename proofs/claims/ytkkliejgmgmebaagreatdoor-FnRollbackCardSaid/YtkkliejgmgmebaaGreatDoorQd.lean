/-
  Nested.Call: Begin's region 4.
-/
import Derived.Test.YtkkliejgmgmebaaGreatDoorQc
import Derived.Deep.RegionLaw
import Derived.Deep.RegionHeld3
namespace Go.Proofs.YtkkliejgmgmebaaGreatDoor
open Go.RowKit

noncomputable def regB : Code := ((Tryz.f15.body.bind (regionOf 4)).getD .skip)

structure frmBp (s0 s4 : Value) (a : Act) : Prop where
  df : a.defers = []
  sz : a.tmps.size = 173
  h0 : a.tmps.getD 0 undef = s0
  h4 : a.tmps.getD 4 undef = s4
set_option maxRecDepth 100000 in
theorem frmB {s0 s4 : Value} {a : Act} (h : frmBp s0 s4 a) : ∃ u : Nat → Value, a = ⟨#[s0, u 1, u 2, u 3, s4, u 5, u 6, u 7, u 8, u 9, u 10, u 11, u 12, u 13, u 14, u 15, u 16, u 17, u 18, u 19, u 20, u 21, u 22, u 23, u 24, u 25, u 26, u 27, u 28, u 29, u 30, u 31, u 32, u 33, u 34, u 35, u 36, u 37, u 38, u 39, u 40, u 41, u 42, u 43, u 44, u 45, u 46, u 47, u 48, u 49, u 50, u 51, u 52, u 53, u 54, u 55, u 56, u 57, u 58, u 59, u 60, u 61, u 62, u 63, u 64, u 65, u 66, u 67, u 68, u 69, u 70, u 71, u 72, u 73, u 74, u 75, u 76, u 77, u 78, u 79, u 80, u 81, u 82, u 83, u 84, u 85, u 86, u 87, u 88, u 89, u 90, u 91, u 92, u 93, u 94, u 95, u 96, u 97, u 98, u 99, u 100, u 101, u 102, u 103, u 104, u 105, u 106, u 107, u 108, u 109, u 110, u 111, u 112, u 113, u 114, u 115, u 116, u 117, u 118, u 119, u 120, u 121, u 122, u 123, u 124, u 125, u 126, u 127, u 128, u 129, u 130, u 131, u 132, u 133, u 134, u 135, u 136, u 137, u 138, u 139, u 140, u 141, u 142, u 143, u 144, u 145, u 146, u 147, u 148, u 149, u 150, u 151, u 152, u 153, u 154, u 155, u 156, u 157, u 158, u 159, u 160, u 161, u 162, u 163, u 164, u 165, u 166, u 167, u 168, u 169, u 170, u 171, u 172], []⟩ := by
  obtain ⟨F, df⟩ := a
  obtain ⟨rfl, hs, rfl, rfl⟩ := h
  refine ⟨fun i => F.getD i undef, ?_⟩
  have e := open_frame F
  rw [hs] at e
  exact congrArg (Act.mk · []) e

/-- an append leaves the elder row's cells as they are -/
theorem run_append_keep {P : Program} {Pr : Nat → Prop} {w : World} {e : TypeId} {size n g cap : Nat} {xs : List Value} (hnew : ¬ Pr w.heap.size) (t ty : TypeId) (i : TypeInfo) (z : Value) (bytes : Nat) (ht : P.underlying t = some (.slice e)) (hi : P.info? e = some i) (hz : i.zero = some z)
    (hsize : i.size = size) (hby : i.bytes = bytes) (hzs : z.cells.size = size) (hrow : Row Pr w e size (.slice (some ⟨g, 0, none⟩) n cap) n xs)
    (a : Addr) (m c : Nat) (news : List Value) (hl : news.length = m * size) (hnews : ∀ j u, news[j]? = some u → w.cell? (a.add j) = some u) (h1 : ∀ u ∈ news, u.oneCell' = true)
    (h63 : n + m ≤ maxLen) (hbytes : (n + m) * bytes ≤ 140737488355328) :
    ∃ v' w', (Builtin.append_ #[t, t] ty #[.slice (some ⟨g, 0, none⟩) n cap, .slice (some a) m c]).run P w = .ok v' w' ∧ Row Pr w' e size v' (n + m) (xs ++ news) ∧ w.grownBy w' (some g) ∧
      (v'.ownBlock = some g ∨ v'.ownBlock = some w.heap.size) ∧ ∀ j, j < n * size → w'.cell? ⟨g, j, none⟩ = w.cell? ⟨g, j, none⟩ := by
  subst hsize
  subst hby
  have hlen : (xs ++ news).length = (n + m) * i.size := by rw [List.length_append, hrow.1, hl, Nat.add_mul]
  rcases hrow.2 with ⟨h0, -⟩ | ⟨g', cap', cur, hv, hbg, hg, hnc, hcm, hcs, htake⟩
  · simp at h0
  simp only [Value.slice.injEq, Option.some.injEq, Addr.mk.injEq, true_and, and_true] at hv
  obtain ⟨rfl, rfl⟩ := hv
  by_cases hroom : n + m ≤ cap
  · have hfit : n * i.size + news.length ≤ cur.size := by rw [hl, ← Nat.add_mul]; exact Nat.le_trans (Nat.mul_le_mul_right _ hroom) hcs
    have hr := run_append_room (P := P) w t ty e i ht hi g n cap cur hg a m c news hl hnews h1 hroom hfit
    have hrow2 : Row Pr (w.setRow g (List.take (n * i.size) cur.toList ++ news ++ List.drop (n * i.size + news.length) cur.toList).toArray) e i.size (.slice (some ⟨g, 0, none⟩) (n + m) cap) (n + m) (xs ++ news) := ⟨hlen, .inr ⟨g, cap, _, rfl, hbg, setRow_heap w g cur _ e _ hg, hroom, hcm, (by
      simp only [List.size_toArray, List.length_append, List.length_take, List.length_drop, Array.length_toList]
      omega), (by rw [htake, ← hlen]; exact List.take_left)⟩⟩
    refine ⟨_, _, hr, hrow2, ⟨rfl, rfl, rfl, by simp, fun k hk hk' => setRow_other w g k _ (fun e => hk' (by simp [e]))⟩, .inl rfl, fun j hj => ?_⟩
    rw [hrow2.cellAt j (by rw [Nat.add_mul]; omega), hrow.cellAt j hj, List.getElem?_append_left (by rw [hrow.1]; exact hj)]
  · have holds : ∀ j u, xs[j]? = some u → w.cell? ((⟨g, 0, none⟩ : Addr).add j) = some u := hrow.cells (g := g) rfl
    have hr := run_append_grow (P := P) w t ty e i z ht hi hz ⟨g, 0, none⟩ n cap xs hrow.1 holds a m c news hl hnews (by omega) (by simp only [maxLen] at h63; omega) (growslice_fits (by omega) hbytes)
    have hge := grownCap_ge w (n + m) cap e
    have hcm2 : grownCap w (n + m) cap e ≤ maxLen := grownCap_le_maxLen w (n + m) cap e h63
    refine ⟨_, _, hr, Row.new Pr w.drew hnew _ (n + m) _ hge hcm2 ?_ ?_, ⟨rfl, rfl, rfl, by simp, fun k hk _ => Below.heap_alloc w.drew _ k hk⟩, .inr rfl, fun j hj => ?_⟩
    · simp only [Array.size_append, List.size_toArray, size_zeroCells', hzs, hrow.1, hl, ← Nat.add_mul]
      refine Nat.le_of_eq ?_
      congr 1
      omega
    · simp only [Array.toList_append, List.append_assoc]
      rw [← List.append_assoc, ← hlen]
      exact List.take_left
    · exact World.cell?_of_block (Below.heap_alloc w.drew _ g (lt_of_heap hg))

theorem step_append_keep {P : Program} {ops : Array Oper} {o : Oper} {a : Act} {w : World} {K : Act → World → Prop} {Q : Exit → Act → World → Prop} {E : Prop}
    (hgd : o.guard = none) (s x : Operand) (t : TypeId) (hop : o.op = Op.call { callee := Callee.builtin Builtin.append, args := #[s, x], argTypes := #[t, t] })
    {Pr : Nat → Prop} {e : TypeId} {size n g cap : Nat} {xs : List Value} (hnew : ¬ Pr w.heap.size) (i : TypeInfo) (z : Value) (bytes : Nat) (ht : P.underlying t = some (.slice e)) (hi : P.info? e = some i) (hz : i.zero = some z)
    (hsize : i.size = size) (hby : i.bytes = bytes) (hzs : z.cells.size = size) (hrow : Row Pr w e size (.slice (some ⟨g, 0, none⟩) n cap) n xs) (hs : a.eval s = .slice (some ⟨g, 0, none⟩) n cap)
    (ad : Addr) (m c : Nat) (hx : a.eval x = .slice (some ad) m c) (news : List Value) (hl : news.length = m * size) (hnews : ∀ j u, news[j]? = some u → w.cell? (ad.add j) = some u) (h1 : ∀ u ∈ news, u.oneCell' = true)
    (h63 : n + m ≤ maxLen) (hbytes : (n + m) * bytes ≤ 140737488355328)
    (hK : ∀ v' w', Row Pr w' e size v' (n + m) (xs ++ news) → w.grownBy w' (some g) → (v'.ownBlock = some g ∨ v'.ownBlock = some w.heap.size) → (∀ j, j < n * size → w'.cell? ⟨g, j, none⟩ = w.cell? ⟨g, j, none⟩) → K (a.put o.dst v') w') :
    if Region.wanted o (yielded ops a.tmps) = true then Oper.wp P o a w K Q else E := by
  have hw : Region.wanted o (yielded ops a.tmps) = true := by simp [Region.wanted, hgd]
  rw [if_pos hw]
  obtain ⟨v', w', hrun, h2, h3, h4, h5⟩ := run_append_keep (P := P) hnew t o.type i z bytes ht hi hz hsize hby hzs hrow ad m c news hl hnews h1 h63 hbytes
  unfold Oper.wp
  simp [execOp, hop, resolve, invoke, builtin, hs, hx, hrun, Result.andThen]
  exact hK v' w' h2 h3 h4 h5

set_option maxRecDepth 100000 in
set_option maxHeartbeats 4000000 in
theorem begin_r4 (Pr : Nat → Prop) (gn gs cap n : Nat) (s3 s4 s17 : Value) (ad ak aw : Option Addr) (l cd ck cw : Nat) (W : World) (u : Nat → Value) (xs : List Value) (R : Value → Value → Value → World → Prop)
    (c0 : W.cell? ⟨gn, 0, none⟩ = some (.slice (some ⟨gs, 0, none⟩) (n + 1) cap)) (y0 : W.cell? ⟨gs, n * 3, none⟩ = some (.slice ad l cd)) (y1 : W.cell? ⟨gs, n * 3 + 1, none⟩ = some (.slice ak l ck)) (y2 : W.cell? ⟨gs, n * 3 + 2, none⟩ = some (.slice aw l cw)) (hn : n ≤ 1000)
    (hc : Calls Tryz.prog 22 #[.agg #[.slice ad l cd, .slice ak l ck, .slice aw l cw]] W.drew fun e w' => ∃ a1 c1 a2 c2 a3 c3, e = .returned (.agg #[.slice a1 l c1, .slice a2 l c2, .slice a3 l c3]) ∧ R (.slice a1 l c1) (.slice a2 l c2) (.slice a3 l c3) w' ∧
      (w'.cell? ⟨gn, 0, none⟩ = some (.slice (some ⟨gs, 0, none⟩) (n + 1) cap) ∧ w'.cell? ⟨gs, n * 3, none⟩ = some (.slice ad l cd) ∧ w'.cell? ⟨gs, n * 3 + 1, none⟩ = some (.slice ak l ck) ∧ w'.cell? ⟨gs, n * 3 + 2, none⟩ = some (.slice aw l cw)) ∧ (gn < w'.heap.size ∧ gs < w'.heap.size ∧ gn ≠ gs) ∧ w'.frozen? ⟨gn, 0, none⟩ = false ∧ Row Pr w' 34 3 (.slice (some ⟨gs, 0, none⟩) (n + 1) cap) (n + 1) xs ∧ Inw Pr w') :
    Code.wp Tryz.prog regB (fun e a' w' => e = .normal ∧ frmBp (.pointer (some ⟨gn, 0, none⟩)) s4 a' ∧ ∃ a1 c1 a2 c2 a3 c3 w4 v5 w5, R (.slice a1 l c1) (.slice a2 l c2) (.slice a3 l c3) w4 ∧ Row Pr w5 34 3 v5 (n + 1 + 1) (xs ++ [.slice a1 l c1, .slice a2 l c2, .slice a3 l c3]) ∧
        (w4.alloc (.cells #[.slice a1 l c1, .slice a2 l c2, .slice a3 l c3] 34)).grownBy w5 (some gs) ∧ (v5.ownBlock = some gs ∨ v5.ownBlock = some (w4.heap.size + 1)) ∧ w' = w5.setCell ⟨gn, 0, none⟩ v5)
      ⟨#[.pointer (some ⟨gn, 0, none⟩), u 1, u 2, s3, s4, .int .i64 (n : Int), u 6, u 7, u 8, u 9, u 10, u 11, u 12, u 13, u 14, u 15, u 16, s17, u 18, u 19, u 20, u 21, u 22, u 23, u 24, u 25, u 26, u 27, u 28, u 29, u 30, u 31, u 32, u 33, u 34, u 35, u 36, u 37, u 38, u 39, u 40, u 41, u 42, u 43, u 44, u 45, u 46, u 47, u 48, u 49, u 50, u 51, u 52, u 53, u 54, u 55, u 56, u 57, u 58, u 59, u 60, u 61, u 62, u 63, u 64, u 65, u 66, u 67, u 68, u 69, u 70, u 71, u 72, u 73, u 74, u 75, u 76, u 77, u 78, u 79, u 80, u 81, u 82, u 83, u 84, u 85, u 86, u 87, u 88, u 89, u 90, u 91, u 92, u 93, u 94, u 95, u 96, u 97, u 98, u 99, u 100, u 101, u 102, u 103, u 104, u 105, u 106, u 107, u 108, u 109, u 110, u 111, u 112, u 113, u 114, u 115, u 116, u 117, u 118, u 119, u 120, u 121, u 122, u 123, u 124, u 125, u 126, u 127, u 128, u 129, u 130, u 131, u 132, u 133, u 134, u 135, u 136, u 137, u 138, u 139, u 140, u 141, u 142, u 143, u 144, u 145, u 146, u 147, u 148, u 149, u 150, u 151, u 152, u 153, u 154, u 155, u 156, u 157, u 158, u 159, u 160, u 161, u 162, u 163, u 164, u 165, u 166, u 167, u 168, u 169, u 170, u 171, u 172], []⟩ W := by
  have HC := Lib.hid hc
  clear hc
  have b0 : (0 : Int) ≤ n := by omega
  have b1 : (n : Int) < (n : Int) + 1 := by omega
  obtain ⟨i0, hi0, hz0, hz1, hz2⟩ := info_parts infoFile
  conv => arg 2; whnf
  refine wp_region_noPanic ?_
  go_region_law
    (first
      | (go_simp; go_at_call 22; refine HC.out.mono ?_; rintro e w4 ⟨a1, c1, a2, c2, a3, c3, rfl, hr, kk, ⟨l0, l1, hne⟩, hfz, hrow, hin⟩; have HR := Lib.hid hr; obtain ⟨k0, k1, k2, k3⟩ := kk; have HROW := Lib.hid hrow; have HIN := Lib.hid hin; have HFZ := Lib.hid hfz; clear hr hrow hin hfz; dsimp only)
      | (refine step_append_keep (by rfl) (.tmp 24) (.tmp 33) 35 (by rfl) (Pr := Pr) (fun h => absurd (HIN.out _ h) (by simp)) i0 (.agg #[.slice none 0 0, .slice none 0 0, .slice none 0 0]) 72 Tryz.underlying35 hi0 hz0 hz1 hz2 (by rfl) (HROW.out.alloc _) (by rfl) ⟨_, 0, none⟩ 1 1 (by rfl) [.slice a1 l c1, .slice a2 l c2, .slice a3 l c3] (by rfl) (fun j u hj => (cell_newRow _ _ _ j).trans hj) (fun u hu => (by simp at hu; rcases hu with rfl | rfl | rfl <;> rfl)) (by unfold maxLen; omega) (by omega) ?_; intro v5 w5 hrow5 hg5 ho5 hc5; obtain ⟨a5, c5, rfl, -⟩ := hrow5.slice; have kg5 : w5.cell? ⟨gn, 0, none⟩ = some (.slice (some ⟨gs, 0, none⟩) (n + 1) cap) := (World.cell?_of_block (hg5.block gn (by simp; omega) (by intro e; simp at e; omega))).trans ((World.cell?_alloc_past _ _ _ l0).trans k0); have fz5 : w5.frozen? ⟨gn, 0, none⟩ = false := (World.frozen?_of_block (hg5.block gn (by simp; omega) (by intro e; simp at e; omega))).trans ((World.frozen?_of_block (heap_alloc_lt _ _ l0)).trans HFZ.out); have HROW5 := Lib.hid hrow5; have HG5 := Lib.hid hg5; have HO5 := Lib.hid ho5; clear hrow5 hg5 ho5 hc5))
  all_goals
    refine NoPanic.normal ?_
    exact ⟨rfl, ⟨rfl, rfl, rfl, rfl⟩, a1, c1, a2, c2, a3, c3, w4, _, w5, HR.out, HROW5.out, HG5.out, by have h := HO5.out; rw [size_alloc'] at h; exact h, rfl⟩

end Go.Proofs.YtkkliejgmgmebaaGreatDoor

namespace Go.Proofs.YtkkliejgmgmebaaGreatDoor
open Go.RowKit

structure frmBbp (s0 s3 s4 s5 s17 : Value) (a : Act) : Prop where
  df : a.defers = []
  sz : a.tmps.size = 173
  h0 : a.tmps.getD 0 undef = s0
  h3 : a.tmps.getD 3 undef = s3
  h4 : a.tmps.getD 4 undef = s4
  h5 : a.tmps.getD 5 undef = s5
  h17 : a.tmps.getD 17 undef = s17
set_option maxRecDepth 100000 in
theorem frmBb {s0 s3 s4 s5 s17 : Value} {a : Act} (h : frmBbp s0 s3 s4 s5 s17 a) : ∃ u : Nat → Value, a = ⟨#[s0, u 1, u 2, s3, s4, s5, u 6, u 7, u 8, u 9, u 10, u 11, u 12, u 13, u 14, u 15, u 16, s17, u 18, u 19, u 20, u 21, u 22, u 23, u 24, u 25, u 26, u 27, u 28, u 29, u 30, u 31, u 32, u 33, u 34, u 35, u 36, u 37, u 38, u 39, u 40, u 41, u 42, u 43, u 44, u 45, u 46, u 47, u 48, u 49, u 50, u 51, u 52, u 53, u 54, u 55, u 56, u 57, u 58, u 59, u 60, u 61, u 62, u 63, u 64, u 65, u 66, u 67, u 68, u 69, u 70, u 71, u 72, u 73, u 74, u 75, u 76, u 77, u 78, u 79, u 80, u 81, u 82, u 83, u 84, u 85, u 86, u 87, u 88, u 89, u 90, u 91, u 92, u 93, u 94, u 95, u 96, u 97, u 98, u 99, u 100, u 101, u 102, u 103, u 104, u 105, u 106, u 107, u 108, u 109, u 110, u 111, u 112, u 113, u 114, u 115, u 116, u 117, u 118, u 119, u 120, u 121, u 122, u 123, u 124, u 125, u 126, u 127, u 128, u 129, u 130, u 131, u 132, u 133, u 134, u 135, u 136, u 137, u 138, u 139, u 140, u 141, u 142, u 143, u 144, u 145, u 146, u 147, u 148, u 149, u 150, u 151, u 152, u 153, u 154, u 155, u 156, u 157, u 158, u 159, u 160, u 161, u 162, u 163, u 164, u 165, u 166, u 167, u 168, u 169, u 170, u 171, u 172], []⟩ := by
  obtain ⟨F, df⟩ := a
  obtain ⟨rfl, hs, rfl, rfl, rfl, rfl, rfl⟩ := h
  refine ⟨fun i => F.getD i undef, ?_⟩
  have e := open_frame F
  rw [hs] at e
  exact congrArg (Act.mk · []) e

section
variable {Pr : Nat → Prop} {w : World} {gn gs cap : Nat} {X : List FV} {opn : Bool} {most : Nat}

set_option maxRecDepth 100000 in
set_option maxHeartbeats 4000000 in
theorem ncall_begin (off size : Int) (da : Option Addr) (dn dc n : Nat) (x : FV) (hin : Inw Pr w) (h : NIs Pr w gn gs cap X opn most) (hx : X.length = n + 1) (hl : X.length ≤ 1000) (hi : X[n]? = some x) (hlen : x.F.d.length ≤ 10000000) :
    Calls Tryz.prog 15 #[.pointer (some ⟨gn, 0, none⟩), .agg #[.int .i64 5, .int .i64 off, .int .i64 size, .slice da dn dc]] w (NPost Pr w gn ⟨X.map FV.F ++ [x.F], opn, most⟩ true) := by
  obtain ⟨vd, vk, vw, F⟩ := x
  have hlen' : F.d.length ≤ 10000000 := hlen
  have hv : FileVal Pr w vd vk vw F := h.val _ _ hi
  obtain ⟨ad, cd, rfl, -⟩ := hv.rd.slice
  obtain ⟨ak, ck, rfl, -⟩ := hv.rk.slice
  obtain ⟨aw, cw, rfl, -⟩ := hv.rw.slice
  obtain ⟨x0, -⟩ := h.cell0
  have hlt := lt_of_heap h.nest
  rw [hx] at x0
  obtain ⟨hb, hk⟩ := h.boxed hin (.cells #[.int .i64 5, .int .i64 off, .int .i64 size, .slice da dn dc] 47)
  have hin1 := hk.inw hin
  -- the copy, in the world with the box
  obtain ⟨W1, hW1⟩ : ∃ W1, w.alloc (.cells #[.int .i64 5, .int .i64 off, .int .i64 size, .slice da dn dc] 47) = W1 := ⟨_, rfl⟩
  have hR : ∀ (a : Act) (s3 s4 s17 : Value), frmBbp (.pointer (some ⟨gn, 0, none⟩)) s3 s4 (.int .i64 (n : Int)) s17 a → Code.wp Tryz.prog regB (fun e a' w' => e = .normal ∧ frmBp (.pointer (some ⟨gn, 0, none⟩)) s4 a' ∧ NPost Pr w gn ⟨X.map FV.F ++ [F], opn, most⟩ true (.returned (.bool true)) w') a W1 := by
    intro a s3 s4 s17 ha
    obtain ⟨u, rfl⟩ := frmBb ha
    clear ha
    rw [hW1] at hb hk hin1
    obtain ⟨c0, -, -, f0, -⟩ := hb.cell0
    rw [hx] at c0
    obtain ⟨g, hgb, hgo, hf, -⟩ := hb.file hi
    obtain ⟨y0, y1, y2, -⟩ := hf.cells
    rw [hgb, hgo] at y0 y1 y2
    have hv1 : FileVal Pr W1.drew (.slice ad F.d.length cd) (.slice ak F.d.length ck) (.slice aw F.d.length cw) F := hb.drew.val _ _ hi
    have hgn := lt_of_heap hb.nest
    have hgs : gs < W1.heap.size := (hb.row.own (k := gs) rfl).1
    have hrow := hb.row
    rw [hx] at hrow
    refine Code.wp_mono ?_ (begin_r4 Pr gn gs cap n s3 s4 s17 ad ak aw F.d.length cd ck cw W1 u (X.flatMap FV.cells) (fun a b c w' => FileVal (Old W1.drew) w' a b c F ∧ Keeps (Old W1) W1 w') c0 y0 y1 y2 (by omega) ((copy_any Pr W1.drew _ _ _ F hv1 hlen').mono ?_))
    · rintro e a' w' ⟨rfl, ha, a1, c1, a2, c2, a3, c3, w4, v5, w5, ⟨hv4, hk4⟩, hrow5, hg5, ho5, rfl⟩
      have hs4 := hk4.size
      have hs5 := hg5.size
      rw [size_alloc'] at hs5
      have hold : ∀ k, k < W1.heap.size → k ≠ gn → k ≠ gs → (w5.setCell ⟨gn, 0, none⟩ v5).heap[k]? = W1.heap[k]? := fun k hk' h1 h2 => by
        rw [heap_set_other _ _ _ h1, hg5.block k (by rw [size_alloc']; omega) (by intro e; simp at e; omega), heap_alloc_lt _ _ (by omega)]
        exact hk4.block k hk'
      obtain ⟨a5, c5, rfl, -⟩ := hrow5.slice
      have hgn5 : w5.heap[gn]? = W1.heap[gn]? := by
        rw [hg5.block gn (by rw [size_alloc']; omega) (by intro e; simp at e; exact hb.ne e), heap_alloc_lt _ _ (by omega)]
        exact hk4.block gn hgn
      obtain ⟨gs5, hgs5⟩ : ∃ gs5, a5 = some ⟨gs5, 0, none⟩ := by
        rcases hrow5.2 with ⟨h0, -⟩ | ⟨g', cap', cur, hv, -⟩
        · simp at h0
        · simp only [Value.slice.injEq, true_and] at hv
          exact ⟨g', hv.1⟩
      subst hgs5
      have hne5 : gs5 ≠ gn := fun e => by
        rcases ho5 with h1 | h1
        · simp [Value.ownBlock] at h1
          exact hb.ne (e.symm.trans h1)
        · simp [Value.ownBlock] at h1
          omega
      have hnest : (w5.setCell ⟨gn, 0, none⟩ (.slice (some ⟨gs5, 0, none⟩) (n + 1 + 1) c5)).heap[gn]? = some (.cells #[.slice (some ⟨gs5, 0, none⟩) (X.length + 1) c5, .bool opn, .int .i64 (most : Int)] 37 (0, 0)) := by
        rw [hx]
        exact heap_set_same (hgn5.trans hb.nest) 0 _
      have hownk : ∀ k, (FV.mk (.slice a1 F.d.length c1) (.slice a2 F.d.length c2) (.slice a3 F.d.length c3) F).own k → W1.heap.size ≤ k ∧ k < w4.heap.size := fun k hk' => by
        have := hv4.ownOf (x := ⟨.slice a1 F.d.length c1, .slice a2 F.d.length c2, .slice a3 F.d.length c3, F⟩) hk'
        exact ⟨Nat.le_of_not_lt this.2, this.1⟩
      have hv5 : FileVal Pr (w5.setCell ⟨gn, 0, none⟩ (.slice (some ⟨gs5, 0, none⟩) (n + 1 + 1) c5)) (.slice a1 F.d.length c1) (.slice a2 F.d.length c2) (.slice a3 F.d.length c3) F := by
        have h1 := hv4.keepOwn (x := ⟨.slice a1 F.d.length c1, .slice a2 F.d.length c2, .slice a3 F.d.length c3, F⟩) (w' := w5.setCell ⟨gn, 0, none⟩ (.slice (some ⟨gs5, 0, none⟩) (n + 1 + 1) c5)) fun k hk' => by
          have h2 := hownk k hk'
          rw [heap_set_other _ _ _ (by show k ≠ gn; omega), hg5.block k (by rw [size_alloc']; omega) (by intro e; simp at e; omega), heap_alloc_lt _ _ h2.2]
        exact h1.widen fun k _ hn hp => hn (hin1 k hp)
      have hN := hb.push (x := ⟨.slice a1 F.d.length c1, .slice a2 F.d.length c2, .slice a3 F.d.length c3, F⟩) hold hnest (by rw [hx]; exact hrow5.kept fun k hk' => heap_set_other _ _ _ (by simp [Value.ownBlock] at hk'; show k ≠ gn; omega)) hv5 (fun k hk' => (hownk k hk').1)
      refine ⟨rfl, ha, rfl, gs5, c5, _, hN, by simp, ?_⟩
      exact hk.trans ((hk4.mono hin1).trans ((Keeps.alloc (hin1.mono hs4) _).trans ((Keeps.grown ((hin1.mono hs4).mono (by rw [size_alloc']; omega)) hg5 fun k e h9 => (hb.row.own (k := gs) rfl).2.1 (by simp at e; rw [e]; exact h9)).trans (Keeps.setCell (a := ⟨gn, 0, none⟩) hb.ng _))))
    · rintro e w' ⟨vd', vk', vw', rfl, hv', hk'⟩
      obtain ⟨a1, c1, rfl, -⟩ := hv'.rd.slice
      obtain ⟨a2, c2, rfl, -⟩ := hv'.rk.slice
      obtain ⟨a3, c3, rfl, -⟩ := hv'.rw.slice
      have hk1 : Keeps (Old W1) W1 w' := (Keeps.drew _ _).trans hk'
      refine ⟨a1, c1, a2, c2, a3, c3, rfl, ⟨hv', hk1⟩, ⟨(hk1.cell (a := ⟨gn, 0, none⟩) hgn).trans c0, (hk1.cell (a := ⟨gs, n * 3, none⟩) hgs).trans y0, (hk1.cell (a := ⟨gs, n * 3 + 1, none⟩) hgs).trans y1, (hk1.cell (a := ⟨gs, n * 3 + 2, none⟩) hgs).trans y2⟩, ⟨Nat.lt_of_lt_of_le hgn hk1.size, Nat.lt_of_lt_of_le hgs hk1.size, hb.ne⟩, (hk1.frozen (a := ⟨gn, 0, none⟩) hgn).trans f0, hrow.kept fun k hk2 => hk1.block k (hrow.own hk2).1, hin1.mono hk1.size⟩
  have HR := Lib.hid hR
  have HW1 := Lib.hid hW1
  clear h hb hk hin1 hv hR hW1
  go_enter Tryz.func15, Tryz.ntmps15
  (repeat (first | go_values | go_skip | go_guarded | go_step | go_upon))
  rw [HW1.out]
  refine Code.wp_mono ?_ (HR.out _ _ _ _ ⟨rfl, rfl, rfl, rfl, rfl, rfl, rfl⟩)
  rintro e a' w' ⟨rfl, ha, hp⟩
  obtain ⟨u, rfl⟩ := frmB ha
  have HP := Lib.hid hp
  clear ha hp HR HW1 x0 hlt
  (repeat (first | go_values | go_skip | go_guarded | go_step | go_upon))
  go_ret
  exact HP.out
end

end Go.Proofs.YtkkliejgmgmebaaGreatDoor
