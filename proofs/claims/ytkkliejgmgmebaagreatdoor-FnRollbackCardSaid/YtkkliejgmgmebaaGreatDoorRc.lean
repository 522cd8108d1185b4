/-
  bitFiler.ReadAt: its loop.
-/
import Derived.Test.YtkkliejgmgmebaaGreatDoorRb
namespace Go.Proofs.YtkkliejgmgmebaaGreatDoor
open Go.RowKit

noncomputable def body78 : Code := ((Tryz.f78.body.bind firstLoop).getD .skip)

structure frl78p (s0 s1 s2 s6 s7 s8 s9 s10 s11 : Value) (a : Act) : Prop where
  df : a.defers = []
  sz : a.tmps.size = 119
  h0 : a.tmps.getD 0 undef = s0
  h1 : a.tmps.getD 1 undef = s1
  h2 : a.tmps.getD 2 undef = s2
  h6 : a.tmps.getD 6 undef = s6
  h7 : a.tmps.getD 7 undef = s7
  h8 : a.tmps.getD 8 undef = s8
  h9 : a.tmps.getD 9 undef = s9
  h10 : a.tmps.getD 10 undef = s10
  h11 : a.tmps.getD 11 undef = s11
set_option maxRecDepth 100000 in
theorem frl78 {s0 s1 s2 s6 s7 s8 s9 s10 s11 : Value} {a : Act} (h : frl78p s0 s1 s2 s6 s7 s8 s9 s10 s11 a) : ∃ u : Nat → Value, a = ⟨#[s0, s1, s2, u 3, u 4, u 5, s6, s7, s8, s9, s10, s11, u 12, u 13, u 14, u 15, u 16, u 17, u 18, u 19, u 20, u 21, u 22, u 23, u 24, u 25, u 26, u 27, u 28, u 29, u 30, u 31, u 32, u 33, u 34, u 35, u 36, u 37, u 38, u 39, u 40, u 41, u 42, u 43, u 44, u 45, u 46, u 47, u 48, u 49, u 50, u 51, u 52, u 53, u 54, u 55, u 56, u 57, u 58, u 59, u 60, u 61, u 62, u 63, u 64, u 65, u 66, u 67, u 68, u 69, u 70, u 71, u 72, u 73, u 74, u 75, u 76, u 77, u 78, u 79, u 80, u 81, u 82, u 83, u 84, u 85, u 86, u 87, u 88, u 89, u 90, u 91, u 92, u 93, u 94, u 95, u 96, u 97, u 98, u 99, u 100, u 101, u 102, u 103, u 104, u 105, u 106, u 107, u 108, u 109, u 110, u 111, u 112, u 113, u 114, u 115, u 116, u 117, u 118], []⟩ := by
  obtain ⟨F, df⟩ := a
  obtain ⟨rfl, hs, rfl, rfl, rfl, rfl, rfl, rfl, rfl, rfl, rfl⟩ := h
  refine ⟨fun i => F.getD i undef, ?_⟩
  have e := open_frame F
  rw [hs] at e
  exact congrArg (Act.mk · []) e

structure frx78p (s6 s7 : Value) (a : Act) : Prop where
  df : a.defers = []
  sz : a.tmps.size = 119
  h6 : a.tmps.getD 6 undef = s6
  h7 : a.tmps.getD 7 undef = s7
set_option maxRecDepth 100000 in
theorem frx78 {s6 s7 : Value} {a : Act} (h : frx78p s6 s7 a) : ∃ u : Nat → Value, a = ⟨#[u 0, u 1, u 2, u 3, u 4, u 5, s6, s7, u 8, u 9, u 10, u 11, u 12, u 13, u 14, u 15, u 16, u 17, u 18, u 19, u 20, u 21, u 22, u 23, u 24, u 25, u 26, u 27, u 28, u 29, u 30, u 31, u 32, u 33, u 34, u 35, u 36, u 37, u 38, u 39, u 40, u 41, u 42, u 43, u 44, u 45, u 46, u 47, u 48, u 49, u 50, u 51, u 52, u 53, u 54, u 55, u 56, u 57, u 58, u 59, u 60, u 61, u 62, u 63, u 64, u 65, u 66, u 67, u 68, u 69, u 70, u 71, u 72, u 73, u 74, u 75, u 76, u 77, u 78, u 79, u 80, u 81, u 82, u 83, u 84, u 85, u 86, u 87, u 88, u 89, u 90, u 91, u 92, u 93, u 94, u 95, u 96, u 97, u 98, u 99, u 100, u 101, u 102, u 103, u 104, u 105, u 106, u 107, u 108, u 109, u 110, u 111, u 112, u 113, u 114, u 115, u 116, u 117, u 118], []⟩ := by
  obtain ⟨F, df⟩ := a
  obtain ⟨rfl, hs, rfl, rfl⟩ := h
  refine ⟨fun i => F.getD i undef, ?_⟩
  have e := open_frame F
  rw [hs] at e
  exact congrArg (Act.mk · []) e

structure fro78p (s6 s7 s8 s11 : Value) (a : Act) : Prop where
  df : a.defers = []
  sz : a.tmps.size = 119
  h6 : a.tmps.getD 6 undef = s6
  h7 : a.tmps.getD 7 undef = s7
  h8 : a.tmps.getD 8 undef = s8
  h11 : a.tmps.getD 11 undef = s11
set_option maxRecDepth 100000 in
theorem fro78 {s6 s7 s8 s11 : Value} {a : Act} (h : fro78p s6 s7 s8 s11 a) : ∃ u : Nat → Value, a = ⟨#[u 0, u 1, u 2, u 3, u 4, u 5, s6, s7, s8, u 9, u 10, s11, u 12, u 13, u 14, u 15, u 16, u 17, u 18, u 19, u 20, u 21, u 22, u 23, u 24, u 25, u 26, u 27, u 28, u 29, u 30, u 31, u 32, u 33, u 34, u 35, u 36, u 37, u 38, u 39, u 40, u 41, u 42, u 43, u 44, u 45, u 46, u 47, u 48, u 49, u 50, u 51, u 52, u 53, u 54, u 55, u 56, u 57, u 58, u 59, u 60, u 61, u 62, u 63, u 64, u 65, u 66, u 67, u 68, u 69, u 70, u 71, u 72, u 73, u 74, u 75, u 76, u 77, u 78, u 79, u 80, u 81, u 82, u 83, u 84, u 85, u 86, u 87, u 88, u 89, u 90, u 91, u 92, u 93, u 94, u 95, u 96, u 97, u 98, u 99, u 100, u 101, u 102, u 103, u 104, u 105, u 106, u 107, u 108, u 109, u 110, u 111, u 112, u 113, u 114, u 115, u 116, u 117, u 118], []⟩ := by
  obtain ⟨F, df⟩ := a
  obtain ⟨rfl, hs, rfl, rfl, rfl, rfl⟩ := h
  refine ⟨fun i => F.getD i undef, ?_⟩
  have e := open_frame F
  rw [hs] at e
  exact congrArg (Act.mk · []) e

theorem neq_nil_iface (w : World) (t : TypeId) (v : Value) : (binOp .neq 66 (.iface t v) .nilIface).run Tryz.prog w = .ok (.bool true) w := by kernel_rfl
theorem neq_nil_err (w : World) (t : TypeId) (v : Value) : (binOp .neq 71 (.iface t v) .nilIface).run Tryz.prog w = .ok (.bool true) w := by kernel_rfl
theorem neq_nil_nil (w : World) : (binOp .neq 71 .nilIface .nilIface).run Tryz.prog w = .ok (.bool false) w := by kernel_rfl
theorem eql_ptr_nil (w : World) (g : Nat) : (binOp .eql 150 (.pointer (some ⟨g, 0, none⟩)) (.pointer none)).run Tryz.prog w = .ok (.bool false) w := by kernel_rfl
theorem eql_nil_ptr (w : World) : (binOp .eql 150 (.pointer none) (.pointer none)).run Tryz.prog w = .ok (.bool true) w := by kernel_rfl

/-- reading at level K: what holds when o bytes are read -/
structure RdAt (tg0 : Nat → Nat × Nat) (w0 : World) (S0 : St) (K gb n off : Nat) (xs : List UInt8) (o : Nat) (tg : Nat → Nat × Nat) (S : St) (w : World) : Prop where
  ld : Loads K S0 S
  tags : ∀ j, j < w0.heap.size → tg j = tg0 j
  st : StIs tg w S
  row : Row NoP w 5 1 (.slice (some ⟨gb, 0, none⟩) n n) n (u8s (splice xs 0 (S0.rd K off o)))
  kp : Keeps (Out tg0 w0 K gb) w0 w

set_option maxRecDepth 100000 in
set_option maxHeartbeats 8000000 in
theorem bread_loop (Q0 : Exit → Act → World → Prop) (tg0 : Nat → Nat × Nat) (w0 : World) (S0 : St) (k gb n off d b : Nat) (z : Int) (xs : List UInt8) (va vb : Addr) (er : Value) (A : Act) (ih : RdSpec k)
    (hS : StIs tg0 w0 S0) (hk : k < S0.t) (hgb : 100 ≤ (tg0 gb).1) (hgb2 : (tg0 gb).1 < 1000) (hV : VarsO tg0 w0 va vb) (hb : (S0.L (k + 1)).b = b)
    (hrow : Row NoP w0 5 1 (.slice (some ⟨gb, 0, none⟩) n n) n (u8s xs)) (hn : n ≤ 65536) (hd : d ≤ n) (hds : off + d ≤ (S0.L (k + 1)).size) (hz : 0 < z)
    (her : er = .nilIface ∨ er = .iface 115 (.pointer (some va)))
    (hA : frl78p (.pointer (some ⟨b, 0, none⟩)) (.slice (some ⟨gb, 0, none⟩) n n) (.int .i64 (off : Int)) (.int .i64 ((0 : Nat) : Int)) er (.int .i64 z) (.int .i64 ((off / 4096 : Nat) : Int)) (.int .i64 ((off % 4096 : Nat) : Int)) (.int .i64 (d : Int)) A)
    (hexit : ∀ (a' : Act) w' tg S er, frx78p (.int .i64 (d : Int)) er a' → (er = .nilIface ∨ er = .iface 115 (.pointer (some va))) → RdAt tg0 w0 S0 (k + 1) gb n off xs d tg S w' → Q0 (.exit 0) a' w') :
    Code.wp Tryz.prog (Code.loop body78) Q0 A w0 := by
  have q1 := eql_ptr_nil
  have q2 := eql_nil_ptr
  have q3 := neq_nil_iface
  refine wp_loop_ghost (fun j a' w' => ∃ (o : Nat) (tg : Nat → Nat × Nat) (S : St) (er sb s9 s10 : Value), j = d - o ∧ o ≤ d ∧ (er = .nilIface ∨ er = .iface 115 (.pointer (some va))) ∧
    frl78p (.pointer (some ⟨b, 0, none⟩)) sb (.int .i64 ((off + o : Nat) : Int)) (.int .i64 (o : Int)) er (.int .i64 z) s9 s10 (.int .i64 ((d - o : Nat) : Int)) a' ∧
    (o < d → sb = .slice (some ⟨gb, o, none⟩) (n - o) (n - o) ∧ s9 = .int .i64 (((off + o) / 4096 : Nat) : Int) ∧ s10 = .int .i64 (((off + o) % 4096 : Nat) : Int)) ∧ RdAt tg0 w0 S0 (k + 1) gb n off xs o tg S w') d
    ⟨0, tg0, S0, er, _, _, _, rfl, Nat.zero_le _, her, hA, fun _ => ⟨rfl, rfl, rfl⟩, Loads.refl _ _, fun _ _ => rfl, hS, by simpa [St.rd, splice_nil] using hrow, Keeps.refl _ _⟩ ?_
  rintro j a' w' ⟨o, tg, S, er, sb, s9, s10, rfl, ho, her, ha, hlt, hR⟩
  obtain ⟨u, rfl⟩ := frl78 ha
  clear ha hA
  conv => arg 2; whnf
  have HE := Lib.hid hexit
  have HRR := Lib.hid hR
  by_cases hod : o < d
  · obtain ⟨rfl, rfl, rfl⟩ := hlt hod
    obtain ⟨p, hp⟩ : ∃ p, (off + o) / 4096 = p := ⟨_, rfl⟩
    obtain ⟨po, hpo⟩ : ∃ po, (off + o) % 4096 = po := ⟨_, rfl⟩
    obtain ⟨rem, hrem⟩ : ∃ rem, d - o = rem := ⟨_, rfl⟩
    obtain ⟨l, hll⟩ : ∃ l, n - o = l := ⟨_, rfl⟩
    obtain ⟨of, hof⟩ : ∃ of, off + o = of := ⟨_, rfl⟩
    rw [hrem, hll, hof]
    rw [hof] at hp hpo
    rw [hp, hpo]
    have hkt : k < S.t := by rw [hR.ld.t]; exact hk
    have hl := hR.st.lv k hkt
    have hsz := hl.sz
    have hb' : (S.L (k + 1)).b = b := (hR.ld.b _).trans hb
    obtain ⟨m, hm⟩ : ∃ m, (S.L (k + 1)).m = m := ⟨_, rfl⟩
    obtain ⟨c0, cf⟩ := cells_at hl.cb
    have x0 := c0 0
    have x1 := c0 1
    simp only [List.getElem?_toArray, List.getElem?_cons_succ, List.getElem?_cons_zero] at x0 x1
    rw [hb'] at x0 x1
    rw [hm] at x1
    rw [St.par_eq] at x0
    have hss : (S.L (k + 1)).size = (S0.L (k + 1)).size := hR.ld.sz _
    have hp1000 : p < 73 := by omega
    have hlk := (hl.map.look (p := p) (by omega)).1
    rw [hm] at hlk
    have hr0 : ¬ (rem : Int) = 0 := by omega
    have hr0' : ¬ rem = 0 := by omega
    obtain ⟨mm, hmm⟩ : ∃ mm, min rem 4096 = mm := ⟨_, rfl⟩
    obtain ⟨nc, hnc⟩ : ∃ nc, min (4096 - po) mm = nc := ⟨_, rfl⟩
    have hpo4 : po < 4096 := by omega
    have hVw := hV.keeps (hR.kp.mono fun j (hj : j < w0.heap.size ∧ 1000 ≤ (tg0 j).1) => ⟨hj.1, by have := hS.tt; omega, fun e => by subst e; omega⟩)
    have hVO : VarsO tg w' va vb := hVw.mono fun j hj => ⟨Nat.lt_of_lt_of_le hj.1 hR.kp.size, by rw [hR.tags j hj.1]; exact hj.2⟩
    -- behind the page's being there: the copy, and the rest of the round
    have tail : ∀ (tg1 : Nat → Nat × Nat) (S1 : St) (w1 : World) (x : Pg), Loads (k + 1) S S1 → (∀ j, j < w'.heap.size → tg1 j = tg j) → StIs tg1 w1 S1 → Keeps (fun j => j < w'.heap.size ∧ k + 1 < (tg j).1) w' w1 → (S1.L (k + 1)).f p = some x →
        ∃ w2, (Builtin.copy_ #[22, 22] 3 #[.slice (some ⟨gb, o, none⟩) mm l, .slice (some ⟨x.r, po, none⟩) (4096 - po) (4096 - po)]).run Tryz.prog w1.drew = .ok (goInt ((nc : Nat) : Int)) w2 ∧ w1.cell? ⟨x.g, 3, none⟩ = some (.slice (some ⟨x.r, 0, none⟩) 4096 4096) ∧ w2.cell? ⟨x.g, 3, none⟩ = some (.slice (some ⟨x.r, 0, none⟩) 4096 4096) ∧
          RdAt tg0 w0 S0 (k + 1) gb n off xs (o + nc) tg1 S1 w2 := by
      intro tg1 S1 w1 x h1 h2 h3 h4 h5
      have hgbl : gb < w0.heap.size := (hrow.own (k := gb) rfl).1
      have hgbw : gb < w'.heap.size := Nat.lt_of_lt_of_le hgbl hR.kp.size
      have htt := hS.tt
      have tgb : tg gb = tg0 gb := hR.tags gb hgbl
      have tgb1 : tg1 gb = tg0 gb := (h2 gb hgbw).trans tgb
      have hrow1 : Row NoP w1.drew 5 1 (.slice (some ⟨gb, 0, none⟩) n n) n (u8s (splice xs 0 (S0.rd (k + 1) off o))) := (hR.row.kept (w' := w1) fun j e => by
        simp only [Value.ownBlock, Option.some.injEq] at e
        subst e
        exact h4.block gb ⟨hgbw, by rw [tgb]; omega⟩).drew
      have hk1 : k < S1.t := by rw [h1.t]; exact hkt
      obtain ⟨hpg, hpg1, hpg2⟩ := (h3.lv k hk1).page p x h5
      have hpgd : PageAt w1.drew x := ⟨hpg.cell, hpg.row.drew⟩
      obtain ⟨w2, hrun, hrow2, hg2⟩ := page_copy (o := o) (mm := mm) (nc := nc) hpgd hrow1 hpo4 (by omega) (by omega) hnc
      rw [hll] at hrun
      obtain ⟨pd, hc1⟩ := hpg.cell
      have ngb : ∀ j, j < w1.heap.size → (tg1 j).1 ≤ S1.t → w2.heap[j]? = w1.heap[j]? := fun j hj1 hj2 => hg2.block j hj1 (fun e => by
        simp only [Option.some.injEq] at e
        subst e
        rw [tgb1] at hj2
        have := h3.tt
        omega)
      have hc2 := (ngb x.g hpg.glt (by rw [hpg1]; exact hk1)).trans hc1
      refine ⟨w2, hrun, (cells_at hc1).1 3, (cells_at hc2).1 3, hR.ld.trans h1, fun j hj => (h2 j (Nat.lt_of_lt_of_le hj hR.kp.size)).trans (hR.tags j hj), h3.kept ngb (fun _ _ _ => rfl), ?_, ?_⟩
      · rw [splice_splice _ _ _ _ (St.rd_length _ _ _ _)] at hrow2
        have e1 := St.rd_page (n := nc) (po := po) h5 hpg.len (by omega)
        rw [show p * 4096 + po = off + o by omega, h1.rd, hR.ld.rd] at e1
        rw [St.rd_add, e1]
        exact hrow2
      · refine (hR.kp.trans (h4.mono fun j hj => ⟨Nat.lt_of_lt_of_le hj.1 hR.kp.size, by rw [hR.tags j hj.1]; exact hj.2.1⟩)).trans ⟨hg2.os, hg2.tape, hg2.output, hg2.size, fun j hj => hg2.block j (Nat.lt_of_lt_of_le hj.1 (Nat.le_trans hR.kp.size h4.size)) fun e => hj.2.2 (Option.some.inj e)⟩
    have TAIL := Lib.hid tail
    have hnc0 : 0 < nc := by omega
    cases hf : (S.L (k + 1)).f p with
    | some x =>
      rw [hf] at hlk
      simp only [Option.map_some, ptrO] at hlk
      obtain ⟨w4, hcp, g3, k3, hRA⟩ := tail tg S w' x (Loads.refl _ _) (fun _ _ => rfl) hR.st (Keeps.refl _ _) hf
      have RA := Lib.hid hRA
      clear hl hR hexit hlt hrow hS hds c0 cf hV ih hVw hVO tail TAIL hRA
      (repeat (first | go_values | go_skip | go_guarded | go_step | go_upon))
      refine Code.wp_mono ?_ (rd19' x.g x.r gb o l l rem mm po nc (.pointer (some ⟨b, 0, none⟩)) (.int .i64 (of : Int)) (.int .i64 (o : Int)) er (.int .i64 z) (.int .i64 (p : Int)) w' w4 _ ⟨rfl, rfl, rfl, rfl, rfl, rfl, rfl, rfl, rfl, rfl, rfl, rfl⟩ hmm (by omega) (Nat.le_refl _) hpo4 g3 k3 hcp)
      rintro e a3 w5 ⟨rfl, ha3, rfl⟩
      obtain ⟨u3, rfl⟩ := frn78 ha3
      have i1 : (nc : Int) ≤ l := by omega
      have i0 : (0 : Int) ≤ nc := by omega
      have i2 : nc ≤ l := by omega
      clear ha3 hcp g3 k3
      dsimp only [Exit.then]
      by_cases hln : l = nc
      · (repeat (first | go_values | go_skip | go_guarded | go_step | go_upon))
        exact ⟨d - (o + nc), by omega, o + nc, _, _, _, _, _, _, rfl, by omega, her, ⟨rfl, rfl, rfl, rfl, by go_num, by go_num, rfl, rfl, rfl, rfl, by go_num⟩, fun h => absurd h (by omega), RA.out⟩
      · (repeat (first | go_values | go_skip | go_guarded | go_step | go_upon))
        exact ⟨d - (o + nc), by omega, o + nc, _, _, _, _, _, _, rfl, by omega, her, ⟨rfl, rfl, rfl, rfl, by go_num, by go_num, rfl, rfl, rfl, rfl, by go_num⟩, fun h => ⟨by go_num, by go_num, by go_num⟩, RA.out⟩
    | none =>
      rw [hf] at hlk
      simp only [Option.map_none, ptrO] at hlk
      have LC := load_call (p := p) ih hR.st hkt hVO (by omega)
      rw [hb'] at LC
      replace LC := Lib.hid LC
      have LP := fun y bs tg2 S2 w2 (h : Loaded tg w' S k p va vb y bs tg2 S2 w2) => h.put hR.st hkt hf hp1000
      rw [hm] at LP
      replace LP := Lib.hid LP
      obtain ⟨nz, nk, ng, nr⟩ := newPg_facts w'
      have y0 := (nk.cell (a := ⟨b, 0, none⟩) (block_lt_of_cell x0)).trans x0
      have y3 := (cells_at ng).1 3
      simp only [List.getElem?_toArray, List.getElem?_cons_succ, List.getElem?_cons_zero] at y3
      have an := andNot4095 of (by omega)
      rw [hp] at an
      clear nz nk ng nr
      clear hl hR hexit hlt hrow hS hds c0 cf hV ih hVw hVO tail
      (repeat (first | go_values | go_skip | go_guarded | go_step | go_upon))
      refine (bufCGet_any _).mono ?_
      rintro e w2 ⟨rfl, rfl⟩
      dsimp only
      (repeat (first | go_values | go_skip | go_guarded | go_step | go_upon))
      refine Code.wp_mono ?_ (rd15 k b w'.heap.size (w'.heap.size + 1) (S.ptr k) of (p * 4096) (.slice (some ⟨gb, o, none⟩) l l) (.int .i64 (o : Int)) er (.int .i64 z) (.int .i64 (p : Int)) (.int .i64 (po : Int)) (.int .i64 (rem : Int)) (newPg w') _ _ ⟨rfl, rfl, rfl, rfl, rfl, rfl, rfl, rfl, rfl, rfl, rfl, rfl⟩ y0 y3 an LC.out)
      rintro e a2 w2 ⟨rfl, x, y, ha2, bs, tg2, S2, hLd⟩
      obtain ⟨u2, rfl⟩ := frm78 ha2
      obtain ⟨w3, tg3, S3, hrun3, hf3, hl3, ht3, hs3, hk3⟩ := LP.out y bs tg2 S2 w2 hLd
      obtain ⟨w4, hcp, g3, k3, hRA⟩ := TAIL.out tg3 S3 w3 _ hl3 ht3 hs3 hk3 hf3
      have x1' : w2.cell? ⟨b, 1, none⟩ = some (.map (some m)) := by
        have hc2 := (hLd.st.lv k (by rw [hLd.ld.t]; exact hkt)).cb
        rw [hLd.ld.up _ (Nat.lt_succ_self k), hb', hm] at hc2
        exact (cells_at hc2).1 1
      have e0 := hLd.vars.e0
      have hy := hLd.er
      have RA := Lib.hid hRA
      have q4 := neq_nil_err
      have q5 := neq_nil_nil
      clear ha2 hLd hf3 hl3 ht3 hs3 hk3 hRA x0 x1 y0 y3 an LC LP TAIL hlk
      dsimp only [Exit.then]
      rcases hy with rfl | rfl
      · (repeat (first | go_values | go_skip | go_guarded | go_step | go_upon))
        refine Code.wp_mono ?_ (rd19' w'.heap.size (w'.heap.size + 1) gb o l l rem mm po nc (.pointer (some ⟨b, 0, none⟩)) (.int .i64 (of : Int)) (.int .i64 (o : Int)) .nilIface (.int .i64 z) (.int .i64 (p : Int)) w3 w4 _ ⟨rfl, rfl, rfl, rfl, rfl, rfl, rfl, rfl, rfl, rfl, rfl, rfl⟩ hmm (by omega) (Nat.le_refl _) hpo4 g3 k3 hcp)
        rintro e a3 w5 ⟨rfl, ha3, rfl⟩
        obtain ⟨u3, rfl⟩ := frn78 ha3
        have i1 : (nc : Int) ≤ l := by omega
        have i0 : (0 : Int) ≤ nc := by omega
        have i2 : nc ≤ l := by omega
        clear ha3 hcp g3 k3
        dsimp only [Exit.then]
        by_cases hln : l = nc
        · (repeat (first | go_values | go_skip | go_guarded | go_step | go_upon))
          exact ⟨d - (o + nc), by omega, o + nc, _, _, _, _, _, _, rfl, by omega, (.inl rfl), ⟨rfl, rfl, rfl, rfl, by go_num, by go_num, rfl, rfl, rfl, rfl, by go_num⟩, fun h => absurd h (by omega), RA.out⟩
        · (repeat (first | go_values | go_skip | go_guarded | go_step | go_upon))
          exact ⟨d - (o + nc), by omega, o + nc, _, _, _, _, _, _, rfl, by omega, (.inl rfl), ⟨rfl, rfl, rfl, rfl, by go_num, by go_num, rfl, rfl, rfl, rfl, by go_num⟩, fun h => ⟨by go_num, by go_num, by go_num⟩, RA.out⟩
      · (repeat (first | go_values | go_skip | go_guarded | go_step | go_upon))
        refine (iseof_any _ va e0).mono ?_
        rintro e w6 ⟨rfl, rfl⟩
        dsimp only
        (repeat (first | go_values | go_skip | go_guarded | go_step | go_upon))
        refine Code.wp_mono ?_ (rd19' w'.heap.size (w'.heap.size + 1) gb o l l rem mm po nc (.pointer (some ⟨b, 0, none⟩)) (.int .i64 (of : Int)) (.int .i64 (o : Int)) .nilIface (.int .i64 z) (.int .i64 (p : Int)) w3 w4 _ ⟨rfl, rfl, rfl, rfl, rfl, rfl, rfl, rfl, rfl, rfl, rfl, rfl⟩ hmm (by omega) (Nat.le_refl _) hpo4 g3 k3 hcp)
        rintro e a3 w5 ⟨rfl, ha3, rfl⟩
        obtain ⟨u3, rfl⟩ := frn78 ha3
        have i1 : (nc : Int) ≤ l := by omega
        have i0 : (0 : Int) ≤ nc := by omega
        have i2 : nc ≤ l := by omega
        clear ha3 hcp g3 k3
        dsimp only [Exit.then]
        by_cases hln : l = nc
        · (repeat (first | go_values | go_skip | go_guarded | go_step | go_upon))
          exact ⟨d - (o + nc), by omega, o + nc, _, _, _, _, _, _, rfl, by omega, (.inl rfl), ⟨rfl, rfl, rfl, rfl, by go_num, by go_num, rfl, rfl, rfl, rfl, by go_num⟩, fun h => absurd h (by omega), RA.out⟩
        · (repeat (first | go_values | go_skip | go_guarded | go_step | go_upon))
          exact ⟨d - (o + nc), by omega, o + nc, _, _, _, _, _, _, rfl, by omega, (.inl rfl), ⟨rfl, rfl, rfl, rfl, by go_num, by go_num, rfl, rfl, rfl, rfl, by go_num⟩, fun h => ⟨by go_num, by go_num, by go_num⟩, RA.out⟩
  · obtain rfl : o = d := by omega
    have hz0 : ((o - o : Nat) : Int) = 0 := by omega
    rw [hz0]
    clear hR hexit hlt hrow hS hds hV ih
    (repeat (first | go_values | go_skip | go_guarded | go_step | go_upon))
    exact HE.out _ _ _ _ _ ⟨rfl, rfl, rfl, rfl⟩ her HRR.out

set_option maxRecDepth 100000 in
set_option maxHeartbeats 4000000 in
/-- LEVEL k + 1 READS AS IT SEES, if level k does. -/
theorem bread (k : Nat) (ih : RdSpec k) : RdSpec (k + 1) := by
  intro tg w S gb n off xs va vb hS hk hgb hgb2 hV hrow hn hn2 ho
  have hkt : k < S.t := by omega
  have hl := hS.lv k hkt
  have hsz := hl.sz
  obtain ⟨b, hb⟩ : ∃ b, (S.L (k + 1)).b = b := ⟨_, rfl⟩
  obtain ⟨c0, -⟩ := cells_at hl.cb
  have x2 := c0 2
  simp only [List.getElem?_toArray, List.getElem?_cons_succ, List.getElem?_cons_zero] at x2
  rw [hb] at x2
  have e0 := hV.e0
  have a1 := and4095 off (by omega)
  obtain ⟨size, hs⟩ : ∃ size, (S.L (k + 1)).size = size := ⟨_, rfl⟩
  have hss : S.size (k + 1) = size := hs
  rw [hs] at x2 hsz
  have hS' := Lib.hid hS
  have HR := Lib.hid hrow
  show Calls Tryz.prog 78 #[.pointer (some ⟨(S.L (k + 1)).b, 0, none⟩), _, _] w _
  rw [hb]
  have fin0 : ∀ er : Value, (er = .nilIface ∨ er = .iface 115 (.pointer (some va))) → size ≤ off → RdPost tg w S (k + 1) gb n off xs va (.returned (.tuple #[.int .i64 0, er])) w := by
    intro er her hle
    refine ⟨tg, S, 0, er, rfl, by rw [hss]; omega, her, Loads.refl _ _, fun _ _ => rfl, hS, ?_, Keeps.refl _ _⟩
    simpa [St.rd, splice_nil] using hrow
  have FIN0 := Lib.hid fin0
  by_cases hin : off < size
  · have fin : ∀ (d : Nat) (er : Value) (tg' : Nat → Nat × Nat) (S' : St) (w' : World), d = min (size - off) n → (er = .nilIface ∨ er = .iface 115 (.pointer (some va))) → RdAt tg w S (k + 1) gb n off xs d tg' S' w' → RdPost tg w S (k + 1) gb n off xs va (.returned (.tuple #[.int .i64 (d : Int), er])) w' :=
      fun d er tg' S' w' hd her h => ⟨tg', S', d, er, rfl, by rw [hss]; exact hd, her, h.ld, h.tags, h.st, h.row, h.kp⟩
    have FIN := Lib.hid fin
    have LP := Lib.hid (fun Q0 d z er A hd hds hz her hA hx => bread_loop Q0 tg w S k gb n off d b z xs va vb er A ih hS hkt hgb hgb2 hV hb hrow hn2 hd hds hz her hA hx)
    clear hl hS hrow c0 hV fin0 fin
    by_cases hle : size - off ≤ n
    · have h1 : (size : Int) - off ≤ n := by omega
      go_enter Tryz.func78, Tryz.ntmps78
      (repeat (first | go_values | go_skip | go_guarded | go_step | go_upon))
      refine LP.out _ (size - off) ((size : Int) - off) (.iface 115 (.pointer (some va))) _ (by omega) (by omega) (by omega) (.inr rfl) ⟨rfl, rfl, rfl, rfl, rfl, rfl, rfl, rfl, by go_num, by go_num, by go_num⟩ ?_
      intro a' w' tg' S' er ha' her hRA
      obtain ⟨u', rfl⟩ := frx78 ha'
      have RA := Lib.hid hRA
      clear ha' hRA LP
      simp only [Exit.inBlock, ↓reduceIte]
      (repeat (first | go_values | go_skip | go_guarded | go_step | go_upon))
      go_ret2
      exact FIN.out _ er tg' S' w' (by omega) her RA.out
    · have h1 : ¬ (size : Int) - off ≤ n := by omega
      go_enter Tryz.func78, Tryz.ntmps78
      (repeat (first | go_values | go_skip | go_guarded | go_step | go_upon))
      refine LP.out _ n ((size : Int) - off) .nilIface _ (by omega) (by omega) (by omega) (.inl rfl) ⟨rfl, rfl, rfl, rfl, rfl, rfl, rfl, rfl, by go_num, by go_num, rfl⟩ ?_
      intro a' w' tg' S' er ha' her hRA
      obtain ⟨u', rfl⟩ := frx78 ha'
      have RA := Lib.hid hRA
      clear ha' hRA LP
      simp only [Exit.inBlock, ↓reduceIte]
      (repeat (first | go_values | go_skip | go_guarded | go_step | go_upon))
      go_ret2
      exact FIN.out _ er tg' S' w' (by omega) her RA.out
  · clear hl hS hrow c0 hV fin0 ih
    obtain ⟨d, hd⟩ : ∃ d : Nat, off = size + d := ⟨off - size, by omega⟩
    subst hd
    go_enter Tryz.func78, Tryz.ntmps78
    (repeat (first | go_values | go_skip | go_guarded | go_step | go_upon))
    refine wp_loop_ghost (fun _ a' w' => fro78p (.int .i64 0) (.iface 115 (.pointer (some va))) (.int .i64 (-(d : Int))) (.int .i64 (-(d : Int))) a' ∧ w' = w) 0 ⟨⟨rfl, rfl, rfl, rfl, by go_num, by go_num⟩, rfl⟩ ?_
    rintro _ a' w' ⟨ha, rfl⟩
    obtain ⟨u, rfl⟩ := fro78 ha
    clear ha
    by_cases hz : d = 0
    · subst hz
      (repeat (first | go_values | go_skip | go_guarded | go_step | go_upon))
      go_ret2
      exact FIN0.out _ (.inr rfl) (by omega)
    · have h1 : ¬ -(d : Int) = 0 := by omega
      have h2 : ¬ (0 : Int) < -(d : Int) := by omega
      (repeat (first | go_values | go_skip | go_guarded | go_step | go_upon))
      go_ret2
      exact FIN0.out _ (.inr rfl) (by omega)

end Go.Proofs.YtkkliejgmgmebaaGreatDoor

namespace Go.Proofs.YtkkliejgmgmebaaGreatDoor
open Go.RowKit

theorem rd_any : ∀ k, RdSpec k
  | 0 => rd_file
  | k + 1 => bread k (rd_any k)

noncomputable def reg81_14 : Code := ((Tryz.f81.body.bind (regionOf 14)).getD .skip)

structure frm81p (s0 s1 s2 s6 s7 s8 s9 s10 s11 s13 : Value) (a : Act) : Prop where
  df : a.defers = []
  sz : a.tmps.size = 114
  h0 : a.tmps.getD 0 undef = s0
  h1 : a.tmps.getD 1 undef = s1
  h2 : a.tmps.getD 2 undef = s2
  h6 : a.tmps.getD 6 undef = s6
  h7 : a.tmps.getD 7 undef = s7
  h8 : a.tmps.getD 8 undef = s8
  h9 : a.tmps.getD 9 undef = s9
  h10 : a.tmps.getD 10 undef = s10
  h11 : a.tmps.getD 11 undef = s11
  h13 : a.tmps.getD 13 undef = s13
set_option maxRecDepth 100000 in
theorem frm81 {s0 s1 s2 s6 s7 s8 s9 s10 s11 s13 : Value} {a : Act} (h : frm81p s0 s1 s2 s6 s7 s8 s9 s10 s11 s13 a) : ∃ u : Nat → Value, a = ⟨#[s0, s1, s2, u 3, u 4, u 5, s6, s7, s8, s9, s10, s11, u 12, s13, u 14, u 15, u 16, u 17, u 18, u 19, u 20, u 21, u 22, u 23, u 24, u 25, u 26, u 27, u 28, u 29, u 30, u 31, u 32, u 33, u 34, u 35, u 36, u 37, u 38, u 39, u 40, u 41, u 42, u 43, u 44, u 45, u 46, u 47, u 48, u 49, u 50, u 51, u 52, u 53, u 54, u 55, u 56, u 57, u 58, u 59, u 60, u 61, u 62, u 63, u 64, u 65, u 66, u 67, u 68, u 69, u 70, u 71, u 72, u 73, u 74, u 75, u 76, u 77, u 78, u 79, u 80, u 81, u 82, u 83, u 84, u 85, u 86, u 87, u 88, u 89, u 90, u 91, u 92, u 93, u 94, u 95, u 96, u 97, u 98, u 99, u 100, u 101, u 102, u 103, u 104, u 105, u 106, u 107, u 108, u 109, u 110, u 111, u 112, u 113], []⟩ := by
  obtain ⟨F, df⟩ := a
  obtain ⟨rfl, hs, rfl, rfl, rfl, rfl, rfl, rfl, rfl, rfl, rfl, rfl⟩ := h
  refine ⟨fun i => F.getD i undef, ?_⟩
  have e := open_frame F
  rw [hs] at e
  exact congrArg (Act.mk · []) e

set_option maxRecDepth 100000 in
set_option maxHeartbeats 4000000 in
theorem wr14_M (b g r : Nat) (pa : Addr) (off s0 : Nat) (sb s6 s7 s8 s9 s10 s11 : Value) (w : World) (u : Nat → Value) (R : Value → Value → World → Prop)
    (c0 : w.cell? ⟨b, 0, none⟩ = some (.iface 68 (.pointer (some pa)))) (c3 : w.cell? ⟨g, 3, none⟩ = some (.slice (some ⟨r, 0, none⟩) 4096 4096)) (an : bits .andNot .i64 (off : Int) 4095 = (s0 : Int))
    (hc : Calls Tryz.prog 120 #[.pointer (some pa), .slice (some ⟨r, 0, none⟩) 4096 4096, .int .i64 (s0 : Int)] w.drew fun e w' => ∃ x y, e = .returned (.tuple #[x, y]) ∧ R x y w' ∧ w'.cell? ⟨b, 0, none⟩ = some (.iface 68 (.pointer (some pa))) ∧ w'.cell? ⟨g, 3, none⟩ = some (.slice (some ⟨r, 0, none⟩) 4096 4096)) :
    Code.wp Tryz.prog reg81_14 (fun e a' w' => e = .normal ∧ ∃ x y, frm81p (.pointer (some ⟨b, 0, none⟩)) sb (.int .i64 (off : Int)) s6 y s8 s9 s10 s11 (.pointer (some ⟨g, 0, none⟩)) a' ∧ R x y w')
      ⟨#[.pointer (some ⟨b, 0, none⟩), sb, .int .i64 (off : Int), u 3, u 4, u 5, s6, s7, s8, s9, s10, s11, u 12, .pointer (some ⟨g, 0, none⟩), u 14, u 15, u 16, u 17, u 18, u 19, u 20, u 21, u 22, u 23, u 24, u 25, u 26, u 27, u 28, u 29, u 30, u 31, u 32, u 33, u 34, u 35, u 36, u 37, u 38, u 39, u 40, u 41, u 42, u 43, u 44, u 45, u 46, u 47, u 48, u 49, u 50, u 51, u 52, u 53, u 54, u 55, u 56, u 57, u 58, u 59, u 60, u 61, u 62, u 63, u 64, u 65, u 66, u 67, u 68, u 69, u 70, u 71, u 72, u 73, u 74, u 75, u 76, u 77, u 78, u 79, u 80, u 81, u 82, u 83, u 84, u 85, u 86, u 87, u 88, u 89, u 90, u 91, u 92, u 93, u 94, u 95, u 96, u 97, u 98, u 99, u 100, u 101, u 102, u 103, u 104, u 105, u 106, u 107, u 108, u 109, u 110, u 111, u 112, u 113], []⟩ w := by
  have na := nil_ahead_rM pa
  have me := method_rM pa
  have HC := Lib.hid hc
  clear hc
  conv => arg 2; whnf
  go_region_held3 (fun W => W.cell? ⟨b, 0, none⟩ = some (.iface 68 (.pointer (some pa))) ∧ W.cell? ⟨g, 3, none⟩ = some (.slice (some ⟨r, 0, none⟩) 4096 4096))
    (exact ⟨by assumption, by assumption⟩)
    ((go_at_call 120; refine HC.out.mono ?_; rintro e w4 ⟨x, y, rfl, hr, k0, k3⟩; have HR := Lib.hid hr; clear hr; dsimp only))
  exact ⟨rfl, x, y, ⟨rfl, rfl, rfl, rfl, rfl, rfl, rfl, rfl, rfl, rfl, rfl, rfl⟩, HR.out⟩

set_option maxRecDepth 100000 in
set_option maxHeartbeats 4000000 in
theorem wr14_B (b g r : Nat) (pa : Addr) (off s0 : Nat) (sb s6 s7 s8 s9 s10 s11 : Value) (w : World) (u : Nat → Value) (R : Value → Value → World → Prop)
    (c0 : w.cell? ⟨b, 0, none⟩ = some (.iface 105 (.pointer (some pa)))) (c3 : w.cell? ⟨g, 3, none⟩ = some (.slice (some ⟨r, 0, none⟩) 4096 4096)) (an : bits .andNot .i64 (off : Int) 4095 = (s0 : Int))
    (hc : Calls Tryz.prog 78 #[.pointer (some pa), .slice (some ⟨r, 0, none⟩) 4096 4096, .int .i64 (s0 : Int)] w.drew fun e w' => ∃ x y, e = .returned (.tuple #[x, y]) ∧ R x y w' ∧ w'.cell? ⟨b, 0, none⟩ = some (.iface 105 (.pointer (some pa))) ∧ w'.cell? ⟨g, 3, none⟩ = some (.slice (some ⟨r, 0, none⟩) 4096 4096)) :
    Code.wp Tryz.prog reg81_14 (fun e a' w' => e = .normal ∧ ∃ x y, frm81p (.pointer (some ⟨b, 0, none⟩)) sb (.int .i64 (off : Int)) s6 y s8 s9 s10 s11 (.pointer (some ⟨g, 0, none⟩)) a' ∧ R x y w')
      ⟨#[.pointer (some ⟨b, 0, none⟩), sb, .int .i64 (off : Int), u 3, u 4, u 5, s6, s7, s8, s9, s10, s11, u 12, .pointer (some ⟨g, 0, none⟩), u 14, u 15, u 16, u 17, u 18, u 19, u 20, u 21, u 22, u 23, u 24, u 25, u 26, u 27, u 28, u 29, u 30, u 31, u 32, u 33, u 34, u 35, u 36, u 37, u 38, u 39, u 40, u 41, u 42, u 43, u 44, u 45, u 46, u 47, u 48, u 49, u 50, u 51, u 52, u 53, u 54, u 55, u 56, u 57, u 58, u 59, u 60, u 61, u 62, u 63, u 64, u 65, u 66, u 67, u 68, u 69, u 70, u 71, u 72, u 73, u 74, u 75, u 76, u 77, u 78, u 79, u 80, u 81, u 82, u 83, u 84, u 85, u 86, u 87, u 88, u 89, u 90, u 91, u 92, u 93, u 94, u 95, u 96, u 97, u 98, u 99, u 100, u 101, u 102, u 103, u 104, u 105, u 106, u 107, u 108, u 109, u 110, u 111, u 112, u 113], []⟩ w := by
  have na := nil_ahead_rB pa
  have me := method_rB pa
  have HC := Lib.hid hc
  clear hc
  conv => arg 2; whnf
  go_region_held3 (fun W => W.cell? ⟨b, 0, none⟩ = some (.iface 105 (.pointer (some pa))) ∧ W.cell? ⟨g, 3, none⟩ = some (.slice (some ⟨r, 0, none⟩) 4096 4096))
    (exact ⟨by assumption, by assumption⟩)
    ((go_at_call 78; refine HC.out.mono ?_; rintro e w4 ⟨x, y, rfl, hr, k0, k3⟩; have HR := Lib.hid hr; clear hr; dsimp only))
  exact ⟨rfl, x, y, ⟨rfl, rfl, rfl, rfl, rfl, rfl, rfl, rfl, rfl, rfl, rfl, rfl⟩, HR.out⟩

theorem wr14 (k b g r : Nat) (pa : Addr) (off s0 : Nat) (sb s6 s7 s8 s9 s10 s11 : Value) (w : World) (a : Act) (R : Value → Value → World → Prop)
    (ha : frm81p (.pointer (some ⟨b, 0, none⟩)) sb (.int .i64 (off : Int)) s6 s7 s8 s9 s10 s11 (.pointer (some ⟨g, 0, none⟩)) a)
    (c0 : w.cell? ⟨b, 0, none⟩ = some (.iface (parT k) (.pointer (some pa)))) (c3 : w.cell? ⟨g, 3, none⟩ = some (.slice (some ⟨r, 0, none⟩) 4096 4096)) (an : bits .andNot .i64 (off : Int) 4095 = (s0 : Int))
    (hc : Calls Tryz.prog (rdFn k) #[.pointer (some pa), .slice (some ⟨r, 0, none⟩) 4096 4096, .int .i64 (s0 : Int)] w.drew fun e w' => ∃ x y, e = .returned (.tuple #[x, y]) ∧ R x y w' ∧ w'.cell? ⟨b, 0, none⟩ = some (.iface (parT k) (.pointer (some pa))) ∧ w'.cell? ⟨g, 3, none⟩ = some (.slice (some ⟨r, 0, none⟩) 4096 4096)) :
    Code.wp Tryz.prog reg81_14 (fun e a' w' => e = .normal ∧ ∃ x y, frm81p (.pointer (some ⟨b, 0, none⟩)) sb (.int .i64 (off : Int)) s6 y s8 s9 s10 s11 (.pointer (some ⟨g, 0, none⟩)) a' ∧ R x y w') a w := by
  obtain ⟨u, rfl⟩ := frm81 ha
  cases k with
  | zero => exact wr14_M b g r pa off s0 sb s6 s7 s8 s9 s10 s11 w u R c0 c3 an hc
  | succ k => exact wr14_B b g r pa off s0 sb s6 s7 s8 s9 s10 s11 w u R c0 c3 an hc

/-- a page of level k + 1 is another one, in the same blocks -/
theorem StIs.setPage {tg : Nat → Nat × Nat} {w w' : World} {S : St} {k p : Nat} {x y : Pg} (h : StIs tg w S) (hk : k < S.t) (hf : (S.L (k + 1)).f p = some x) (hg : y.g = x.g) (hr : y.r = x.r) (hpv : y.pv = x.pv) (hnx : y.nx = x.nx) (hy : PageAt w' y)
    (hkp : ∀ j, j < w.heap.size → j ≠ x.g → j ≠ x.r → w'.heap[j]? = w.heap[j]?) : StIs tg w' (S.setL (k + 1) ((S.L (k + 1)).set p y)) := by
  have hl := h.lv k hk
  obtain ⟨hx, tx, tr⟩ := hl.page p x hf
  obtain ⟨pd, hxc⟩ := hx.cell
  obtain ⟨-, -, cur, hxr⟩ := hx.row.own (k := x.r) rfl
  have e1 := St.setL_same S (k + 1) ((S.L (k + 1)).set p y)
  have keep : ∀ j, j < w.heap.size → (tg j).1 ≠ k + 1 → w'.heap[j]? = w.heap[j]? := fun j h1 h2 => hkp j h1 (fun e => h2 (by rw [e, tx])) (fun e => h2 (by rw [e, tr]))
  refine ⟨h.mem.retag (fun j h1 h2 => keep j h1 (by omega)) (fun _ _ _ => rfl), fun j hj => ?_, h.fb, h.tt, h.pl.setL ((h.pl k hk).set (by rw [hpv, hnx]; exact h.pl k hk p x hf))⟩
  have hpar : (S.setL (k + 1) ((S.L (k + 1)).set p y)).par j = S.par j := by
    cases j with
    | zero => rfl
    | succ j =>
      show Value.iface _ (.pointer (some ⟨((S.setL (k + 1) ((S.L (k + 1)).set p y)).L (j + 1)).b, 0, none⟩)) = .iface _ (.pointer (some ⟨(S.L (j + 1)).b, 0, none⟩))
      by_cases e : j + 1 = k + 1
      · rw [e, e1]; rfl
      · rw [St.setL_other S _ e]
  rw [hpar]
  have hj' : j < S.t := hj
  by_cases e : j = k
  · subst e
    rw [e1]
    have nb1 : (S.L (j + 1)).b ≠ x.g := fun e => by
      have := hl.cb
      rw [e, hxc] at this
      simp at this
    have nb2 : (S.L (j + 1)).b ≠ x.r := fun e => by
      have := hl.cb
      rw [e, hxr] at this
      simp at this
    obtain ⟨es, c, hmm⟩ := hl.map.isMap
    have nm1 : (S.L (j + 1)).m ≠ x.g := fun e => by rw [e, hxc] at hmm; cases hmm
    have nm2 : (S.L (j + 1)).m ≠ x.r := fun e => by rw [e, hxr] at hmm; cases hmm
    refine ⟨(hkp _ hl.blt nb1 nb2).trans hl.cb, hl.tb, hl.tm, ?_, fun q z hz => ?_, hl.sz⟩
    · have e2 : (fun q => (((S.L (j + 1)).set p y).f q).map Pg.g) = fun q => ((S.L (j + 1)).f q).map Pg.g := by
        funext q
        unfold Lv.set
        dsimp only
        split
        · rename_i eq
          subst eq
          rw [hf]
          simp [hg]
        · rfl
      show MapIs w' (S.L (j + 1)).m (fun q => (((S.L (j + 1)).set p y).f q).map Pg.g)
      rw [e2]
      exact hl.map.kept (hkp _ hl.mlt nm1 nm2)
    · unfold Lv.set at hz
      dsimp only at hz
      split at hz
      · rename_i eq
        subst eq
        cases hz
        exact ⟨hy, by rw [hg]; exact tx, by rw [hr]; exact tr⟩
      · rename_i nq
        obtain ⟨h1, h2, h3⟩ := hl.page q z hz
        obtain ⟨pz, hzc⟩ := h1.cell
        obtain ⟨-, -, cz, hzr⟩ := h1.row.own (k := z.r) rfl
        have a1 : z.g ≠ x.g := fun e => by rw [e, tx] at h2; exact nq (Prod.ext_iff.1 h2).2.symm
        have a2 : z.g ≠ x.r := fun e => by rw [e, hxr] at hzc; simp at hzc
        have a3 : z.r ≠ x.r := fun e => by rw [e, tr] at h3; exact nq (Prod.ext_iff.1 h3).2.symm
        have a4 : z.r ≠ x.g := fun e => by rw [e, hxc] at hzr; simp at hzr
        exact ⟨h1.kept (hkp _ h1.glt a1 a2) (hkp _ h1.rlt a4 a3), h2, h3⟩
  · rw [St.setL_other S _ (show j + 1 ≠ k + 1 by omega)]
    exact (h.lv j hj').kept (fun i h1 h2 => keep i h1 (by omega)) (fun _ _ _ => rfl)

theorem St.setPage_raw (S : St) (k p : Nat) (y : Pg) (i : Nat) : (S.setL (k + 1) ((S.L (k + 1)).set p y)).raw (k + 1) i = if i / 4096 = p then y.bs.getD (i % 4096) 0 else S.raw (k + 1) i := by
  obtain ⟨h1, h2⟩ := St.raw_below S (k + 1) ((S.L (k + 1)).set p y) k (by omega)
  unfold St.raw
  rw [St.setL_same, h1 i, h2]
  unfold Lv.set
  dsimp only
  by_cases e : i / 4096 = p
  · rw [if_pos e, if_pos e]
  · rw [if_neg e, if_neg e]

theorem St.setPage_dirty (S : St) (k p : Nat) (y : Pg) (j q : Nat) : (S.setL (k + 1) ((S.L (k + 1)).set p y)).dirty j q = if j = k + 1 ∧ q = p then y.dirty else S.dirty j q := by
  unfold St.dirty
  by_cases e : j = k + 1
  · subst e
    rw [St.setL_same]
    unfold Lv.set
    dsimp only
    by_cases e2 : q = p
    · subst e2
      rw [if_pos rfl, if_pos ⟨rfl, rfl⟩]
    · rw [if_neg e2, if_neg (fun h => e2 h.2)]
  · rw [St.setL_other S _ e, if_neg (fun h => e h.1)]

end Go.Proofs.YtkkliejgmgmebaaGreatDoor
