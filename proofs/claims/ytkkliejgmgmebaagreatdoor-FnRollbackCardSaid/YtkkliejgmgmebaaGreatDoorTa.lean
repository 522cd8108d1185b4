/-
  laws.rolled: its loop (printed by gen_t3.py).
-/
import Derived.Test.YtkkliejgmgmebaaGreatDoorT3a
namespace Go.Proofs.YtkkliejgmgmebaaGreatDoor
open Go.RowKit

noncomputable def bodyU : Code := ((Tryz.f7.body.bind firstLoop).getD .skip)

structure frmUp (s1 s2 s7 s15 s16 s17 : Value) (a : Act) : Prop where
  df : a.defers = []
  sz : a.tmps.size = 90
  h1 : a.tmps.getD 1 undef = s1
  h2 : a.tmps.getD 2 undef = s2
  h7 : a.tmps.getD 7 undef = s7
  h15 : a.tmps.getD 15 undef = s15
  h16 : a.tmps.getD 16 undef = s16
  h17 : a.tmps.getD 17 undef = s17
set_option maxRecDepth 100000 in
theorem frmU {s1 s2 s7 s15 s16 s17 : Value} {a : Act} (h : frmUp s1 s2 s7 s15 s16 s17 a) : ∃ u : Nat → Value, a = ⟨#[u 0, s1, s2, u 3, u 4, u 5, u 6, s7, u 8, u 9, u 10, u 11, u 12, u 13, u 14, s15, s16, s17, u 18, u 19, u 20, u 21, u 22, u 23, u 24, u 25, u 26, u 27, u 28, u 29, u 30, u 31, u 32, u 33, u 34, u 35, u 36, u 37, u 38, u 39, u 40, u 41, u 42, u 43, u 44, u 45, u 46, u 47, u 48, u 49, u 50, u 51, u 52, u 53, u 54, u 55, u 56, u 57, u 58, u 59, u 60, u 61, u 62, u 63, u 64, u 65, u 66, u 67, u 68, u 69, u 70, u 71, u 72, u 73, u 74, u 75, u 76, u 77, u 78, u 79, u 80, u 81, u 82, u 83, u 84, u 85, u 86, u 87, u 88, u 89], []⟩ := by
  obtain ⟨F, df⟩ := a
  obtain ⟨rfl, hs, rfl, rfl, rfl, rfl, rfl, rfl⟩ := h
  refine ⟨fun i => F.getD i undef, ?_⟩
  have e := open_frame F
  rw [hs] at e
  exact congrArg (Act.mk · []) e

set_option maxRecDepth 100000 in
set_option maxHeartbeats 8000000 in
theorem rolled_loop (Q0 : Exit → Act → World → Prop) (Pr : Nat → Prop) (w : World) (gn gs cap : Nat) (X : List FV) (N0 : Ns) (L : List Op) (R : List RS) (a ar : Option Addr) (n c cr : Nat) (vL : Value) (A : Act)
    (hin : Inw Pr w) (hL : L.length = n) (hn : n ≤ 1000) (hnc : n ≤ c) (hncr : n ≤ cr) (hrd : rdO Pr w a L) (hres : ∀ w', Keeps Pr w w' → rdR w' ar R) (hR : R.length = n) (hst : ∀ (i : Nat) o x, L[i]? = some o → R[i]? = some x → StepOk (nseq N0 (L.take i)) o.kind o.off o.size o.d x.r) (hfr : fitsR L)
    (hN : NIs Pr w gn gs cap X N0.opn N0.most) (hX : X.map FV.F = N0.Fs) (hok : NOk N0) (h1 : N0.Fs.length = 1)
    (hA : frmUp vL (.slice ar n cr) (.pointer (some ⟨gn, 0, none⟩)) (.slice a n c) (.int .i64 (n : Int)) (.int .i64 ((0 : Nat) : Int)) A)
    (hexit : ∀ a' w', frmUp vL (.slice ar n cr) (.pointer (some ⟨gn, 0, none⟩)) (.slice a n c) (.int .i64 (n : Int)) (.int .i64 (n : Int)) a' → Keeps Pr w w' → Q0 (.exit 0) a' w') :
    Code.wp Tryz.prog (Code.loop bodyU) Q0 A w := by
  refine wp_loop_ghost (fun k a' w' => ∃ (i gs cap : Nat) (X : List FV), k = n - i ∧ i ≤ n ∧ frmUp vL (.slice ar n cr) (.pointer (some ⟨gn, 0, none⟩)) (.slice a n c) (.int .i64 (n : Int)) (.int .i64 (i : Int)) a' ∧ NIs Pr w' gn gs cap X (nseq N0 (L.take i)).opn (nseq N0 (L.take i)).most ∧ X.map FV.F = (nseq N0 (L.take i)).Fs ∧ NOk (nseq N0 (L.take i)) ∧ Keeps Pr w w') n
    ⟨0, gs, cap, X, rfl, Nat.zero_le _, hA, by rw [List.take_zero]; exact hN, by rw [List.take_zero]; exact hX, by rw [List.take_zero]; exact hok, Keeps.refl _ _⟩ ?_
  rintro k a' w' ⟨i, gs, cap, X, rfl, hi, ha, hN, hX, hok, hk⟩
  obtain ⟨u, rfl⟩ := frmU ha
  clear ha hA
  have HE := Lib.hid hexit
  have HK := Lib.hid hk
  conv => arg 2; whnf
  by_cases hlt : i < n
  · obtain ⟨o, ho⟩ : ∃ o, L[i]? = some o := ⟨_, List.getElem?_eq_getElem (by omega)⟩
    obtain ⟨x, hx⟩ : ∃ x, R[i]? = some x := ⟨_, List.getElem?_eq_getElem (by omega)⟩
    rcases hrd with h0 | ⟨b, off, rfl, hb, hc⟩
    · subst h0; cases ho
    rcases hres w' hk with h0 | ⟨b2, off2, rfl, hb2, hc2⟩
    · subst h0; cases hx
    have hT := take_snoc ho
    have hso := hst i o x ho hx
    obtain ⟨⟨lenf, hfl⟩, hk3, hdp⟩ := hfr i o ho
    have hfrt : fitsR (L.take i) := fun j p hp => by
      have hj : j < i := by
        have h5 := (List.getElem?_eq_some_iff.1 hp).1
        rw [List.length_take] at h5
        omega
      rw [List.getElem?_take_of_lt hj] at hp
      rw [List.take_take, Nat.min_eq_left (Nat.le_of_lt hj)]
      exact hfr j p hp
    obtain ⟨kd, of, sz, oa, on, oc, od⟩ := o
    obtain ⟨⟨rn, rd, rsz, rerr⟩, xa, xc⟩ := x
    replace hfl : fitsB lenf kd of sz on = true := hfl
    replace hk3 : kd ≠ 3 := hk3
    replace hso : StepOk (nseq N0 (L.take i)) kd of sz od ⟨rn, rd, rsz, rerr⟩ := hso
    have hop := (hc i _ ho).keeps hb hk
    have hre := hc2 i _ hx
    have x0 : w'.cell? ⟨b, off + i * 4, none⟩ = some (.int .i64 kd) := hop.c0
    have x1 : w'.cell? ⟨b, off + i * 4 + 1, none⟩ = some (.int .i64 of) := hop.c1
    have x2 : w'.cell? ⟨b, off + i * 4 + 2, none⟩ = some (.int .i64 sz) := hop.c2
    have x3 : w'.cell? ⟨b, off + i * 4 + 3, none⟩ = some (.slice oa on oc) := hop.c3
    have z0 : w'.cell? ⟨b2, off2 + i * 4, none⟩ = some (.int .i64 rn) := hre.c0
    have z1 : w'.cell? ⟨b2, off2 + i * 4 + 1, none⟩ = some (.slice xa rd.length xc) := hre.c1
    have z2 : w'.cell? ⟨b2, off2 + i * 4 + 2, none⟩ = some (.int .i64 rsz) := hre.c2
    have z3 : w'.cell? ⟨b2, off2 + i * 4 + 3, none⟩ = some (.int .i64 rerr) := hre.c3
    have hnc2 : on ≤ oc := hop.nc
    have hxc : rd.length ≤ xc := hre.nc
    have hlX : X.length = depth (L.take i) + 1 := by
      have e := nseq_len N0 h1 hfrt
      rw [← hX, List.length_map] at e
      exact e
    obtain ⟨m, hm⟩ : ∃ m, X.length = m + 1 := ⟨_, hlX⟩
    have hinw := hin.mono hk.size
    obtain ⟨x, hxx⟩ : ∃ x, X[m]? = some x := ⟨_, List.getElem?_eq_getElem (by omega)⟩
    have hxl : x.F.d.length ≤ 262144 := hok.2 _ (by rw [← hX]; exact List.mem_map_of_mem (List.mem_of_getElem? hxx))
    have htp := top_of (N := nseq N0 (L.take i)) (n := m) (F := x.F) (by rw [← hX, List.length_map]; exact hm) (by rw [← hX, List.getElem?_map, hxx]; rfl)
    have hev := hN.even hxx
    -- the world with the two boxes
    obtain ⟨Pr2, hPr2⟩ : ∃ Pr2 : Nat → Prop, Pr2 = fun k => Pr k ∨ k = w'.heap.size ∨ k = w'.heap.size + 1 := ⟨_, rfl⟩
    have hPP : ∀ k, Pr k → Pr2 k := fun k hp => by rw [hPr2]; exact .inl hp
    have hP9 : Pr2 w'.heap.size := by rw [hPr2]; exact .inr (.inl rfl)
    have hP10 : Pr2 (w'.heap.size + 1) := by rw [hPr2]; exact .inr (.inr rfl)
    have hB1 : Keeps (Old w') w' ((w'.alloc (.cells #[.int .i64 kd, .int .i64 of, .int .i64 sz, .slice oa on oc] 47)).alloc (.cells #[.int .i64 rn, .slice xa rd.length xc, .int .i64 rsz, .int .i64 rerr] 60)) := (Keeps.alloc (fun _ h => h) _).trans (Keeps.alloc (fun k (h : k < w'.heap.size) => by simp; omega) _)
    have hB9lt : w'.heap.size < ((w'.alloc (.cells #[.int .i64 kd, .int .i64 of, .int .i64 sz, .slice oa on oc] 47)).alloc (.cells #[.int .i64 rn, .slice xa rd.length xc, .int .i64 rsz, .int .i64 rerr] 60)).heap.size := by simp; omega
    have hB10lt : w'.heap.size + 1 < ((w'.alloc (.cells #[.int .i64 kd, .int .i64 of, .int .i64 sz, .slice oa on oc] 47)).alloc (.cells #[.int .i64 rn, .slice xa rd.length xc, .int .i64 rsz, .int .i64 rerr] 60)).heap.size := by simp
    obtain ⟨q0, -⟩ := cells_at (heap_alloc2_old w' (.cells #[.int .i64 kd, .int .i64 of, .int .i64 sz, .slice oa on oc] 47) (.cells #[.int .i64 rn, .slice xa rd.length xc, .int .i64 rsz, .int .i64 rerr] 60))
    obtain ⟨q1, -⟩ := cells_at (heap_alloc2_new w' (.cells #[.int .i64 kd, .int .i64 of, .int .i64 sz, .slice oa on oc] 47) (.cells #[.int .i64 rn, .slice xa rd.length xc, .int .i64 rsz, .int .i64 rerr] 60))
    have s0 := q0 0
    have s1 := q0 1
    have s2 := q0 2
    have s3 := q0 3
    have s4 := q1 0
    have s5 := q1 1
    have s6 := q1 2
    have s7 := q1 3
    simp only [List.getElem?_toArray, List.getElem?_cons_succ, List.getElem?_cons_zero] at s0 s1 s2 s3 s4 s5 s6 s7
    obtain ⟨W1, hW1⟩ : ∃ W1, (w'.alloc (.cells #[.int .i64 kd, .int .i64 of, .int .i64 sz, .slice oa on oc] 47)).alloc (.cells #[.int .i64 rn, .slice xa rd.length xc, .int .i64 rsz, .int .i64 rerr] 60) = W1 := ⟨_, rfl⟩
    rw [hW1] at hB1 s0 s1 s2 s3 s4 s5 s6 s7 hB9lt hB10lt
    have hN1 := (hN.widen (Pr' := Pr2) fun k hk' hn hor => by
      rw [hPr2] at hor
      rcases hor with h | h | h
      · exact hn h
      · omega
      · omega).keeps hB1 fun k hk' _ => hk'
    have hin2 : Inw Pr2 W1 := fun k hk' => by
      rw [hPr2] at hk'
      rcases hk' with h | h | h
      · exact Nat.lt_of_lt_of_le (hinw k h) hB1.size
      · omega
      · omega
    have hrd1 : Rd Pr2 W1 oa on od := (hop.rd.keeps (hB1.mono hinw)).mono hPP
    have HN1 := Lib.hid (fun (V : World) (hV : Below W1.heap.size W1 V) => hN1.kept (w' := V) fun k hk' _ => hV.block k hk')
    obtain ⟨g, hgb, hgo, hf, -⟩ := hN1.file hxx
    obtain ⟨s8, -⟩ := hf.cells
    rw [hgb, hgo] at s8
    obtain ⟨ad, cd, ed, -⟩ := hf.v.rd.slice
    rw [ed] at s8
    have hgs : gs < W1.heap.size := (hN1.row.own (k := gs) rfl).1
    have hRDS : ∀ (of' sz' : Nat), of = of' → sz = sz' → kd = 1 → of' ≤ 1000000 → sz' ≤ 1000000 → ∀ (V : World), Below W1.heap.size W1 V → Calls Tryz.prog 19 #[.agg #[.int .i64 rn, .slice xa rd.length xc, .int .i64 rsz, .int .i64 rerr], .pointer (some ⟨gs, m * 3, none⟩), .agg #[.int .i64 kd, .int .i64 of, .int .i64 sz, .slice oa on oc], .bool false] V fun e w2 => e = .returned (.bool true) ∧ Below V.heap.size V w2 := fun of' sz' e1 e2 e3 e4 e5 V hV => by
      subst e1 e2 e3
      obtain ⟨d1, d2, d3, d4⟩ := hso.rd rfl
      rw [htp] at d2 d4
      simp only [Int.toNat_natCast] at d1 d2 d3 d4
      subst d1
      obtain ⟨g', hgb', hgo', hf', -⟩ := (HN1.out V hV).file hxx
      have h5 := reads_true _ g' x.vd x.vk x.vw x.F V xa rd.length xc of' sz' rsz 1 rerr oa on oc false rd hf' (by omega) e4 e5 d2 ((hre.rd.keeps (old_trans hB1 (below_keeps hV))).mono fun k hk' => by
        have := hB1.size
        have := hV.size
        have h9 : k < w'.heap.size := hk'
        show k < V.heap.size
        omega) hxc d3 (fun h => (by cases h)) d4
      rw [hgb', hgo'] at h5
      exact h5
    have htop : ∀ (V : World), Below W1.heap.size W1 V → Calls Tryz.prog 13 #[.pointer (some ⟨gn, 0, none⟩)] V fun e w2 => e = .returned (.pointer (some ⟨gs, m * 3, none⟩)) ∧ Below V.heap.size V w2 := fun V hV => by
      have h5 := top_any Pr2 V gn gs cap X _ _ (HN1.out V hV) (by omega) (by omega)
      rw [hm, Nat.add_sub_cancel] at h5
      exact h5.mono fun e w2 ⟨h6, q, h7⟩ => ⟨h6, by rw [h7]; exact below_drewN _ _ _⟩
    obtain ⟨lenT, hlenT⟩ : ∃ lenT, x.F.d.length = lenT := ⟨_, rfl⟩
    rw [hlenT] at s8
    have hlT : lenT ≤ 262144 := by omega
    obtain ⟨okb, hokb⟩ : ∃ okb, (nstep (nseq N0 (L.take i)) kd of sz od).2 = okb := ⟨_, rfl⟩
    have hNC : ∀ (V : World), Keeps Pr2 W1 V → NIs Pr2 V gn gs cap X (nseq N0 (L.take i)).opn (nseq N0 (L.take i)).most → Calls Tryz.prog 15 #[.pointer (some ⟨gn, 0, none⟩), .agg #[.int .i64 kd, .int .i64 of, .int .i64 sz, .slice oa on oc]] V (NPost Pr2 V gn (nstep (nseq N0 (L.take i)) kd of sz od).1 okb) := fun V hV hNV => by
      have h5 := ncall_any kd of sz oa on oc lenf od (hin2.mono hV.size) hNV (by omega) (by omega) (hrd1.keeps hV) hnc2 (by rw [hX]; exact hok) hfl hk3
      rw [hX] at h5
      have h6 : (nstep ⟨(nseq N0 (L.take i)).Fs, (nseq N0 (L.take i)).opn, (nseq N0 (L.take i)).most⟩ kd of sz od).2 = okb := hokb
      rw [h6] at h5
      exact h5
    have hE5 : nseq N0 (L.take (i + 1)) = (nstep (nseq N0 (L.take i)) kd of sz od).1 := by rw [hT, nseq_snoc]
    have hOK5 := hok.step (by rw [← hX, List.length_map]; omega) (by rw [htp]; exact hev) hfl hk3 hop.rd.1
    have RDS0 := Lib.hid hRDS
    have cT := Lib.hid (fun (V : World) (hV : Below W1.heap.size W1 V) => (htop V hV).mono (R' := fun e w2 => e = .returned (.pointer (some ⟨gs, m * 3, none⟩)) ∧ Below W1.heap.size W1 w2) fun e w2 ⟨h1, h2⟩ => ⟨h1, hV.trans (h2.mono hV.size)⟩)
    have NCALL := Lib.hid hNC
    have HE5 := Lib.hid hE5
    have HOK5 := Lib.hid hOK5
    have HSO := Lib.hid hso
    have HIN2 := Lib.hid hin2
    have HPP := Lib.hid hPP
    have HP9 := Lib.hid hP9
    have HP10 := Lib.hid hP10
    have HWP := Lib.hid (hB1.mono hinw)
    have HW1 := Lib.hid hW1
    have HFL := Lib.hid hfl
    have HTOP := Lib.hid (show (nseq N0 (L.take i)).top.d.length = lenT by rw [htp]; exact hlenT)
    have HOKB := Lib.hid hokb
    clear hc hc2 hop hre hN hX hok hfr hfrt hk hexit ho hx hT hlX hinw hxx hxl htp hev hPr2 hPP hP9 hP10 hB1 q0 q1 hN1 hin2 hrd1 hgb hgo hf ed hRDS htop hlenT hokb hNC hE5 hOK5 hst hres hR hso hfl hdp hW1 hm hgs
    (repeat (first | go_values | go_skip | go_guarded | go_step | go_upon))
    rw [HW1.out]
    by_cases k1 : kd = 1
    · subst k1
      obtain ⟨g1, g2, g3, g4⟩ := fitsB_1 HFL.out
      obtain ⟨of', rfl⟩ := Int.eq_ofNat_of_zero_le g1
      obtain ⟨sz', rfl⟩ := Int.eq_ofNat_of_zero_le (show 0 ≤ sz by omega)
      have cR := Lib.hid (fun (V : World) (hV : Below W1.heap.size W1 V) => (RDS0.out of' sz' rfl rfl rfl (by omega) (by omega) V hV).mono (R' := fun e w2 => e = .returned (.bool true) ∧ Below W1.heap.size W1 w2) fun e w2 ⟨h1, h2⟩ => ⟨h1, hV.trans (h2.mono hV.size)⟩)
      have he : rerr = 0 ∨ rerr = 1 := (HSO.out.rd rfl).2.2.1
      obtain rfl : okb = true := by rw [← HOKB.out, nstep_read _ _ _ _ (.inl rfl)]
      clear RDS0 g1 g2 g3 g4
      refine Code.wp_mono ?_ (r8_read _ _ _ _ _ _ _ _ _ _ _ _ _ _ _ _ _ _ _ _ _ _ _ W1 s0 s1 s2 s3 s4 s5 s6 s7 cT.out cR.out ⟨rfl, rfl, rfl, rfl, rfl, rfl, rfl, rfl, rfl, rfl, rfl⟩)
      rintro e a' WC ⟨rfl, ha, hWC⟩
      obtain ⟨u, rfl⟩ := frmX ha
      clear ha
      have hKc := below_keeps hWC
      have NC := Lib.hid (NCALL.out WC (hKc.mono HIN2.out) (HN1.out WC hWC))
      have p0 : WC.cell? ⟨w'.heap.size, 0, none⟩ = some (.int .i64 1) := (hKc.cell (a := ⟨w'.heap.size, 0, none⟩) hB9lt).trans s0
      have p1 : WC.cell? ⟨w'.heap.size, 1, none⟩ = some (.int .i64 ((of' : Nat) : Int)) := (hKc.cell (a := ⟨w'.heap.size, 1, none⟩) hB9lt).trans s1
      have p2 : WC.cell? ⟨w'.heap.size, 2, none⟩ = some (.int .i64 ((sz' : Nat) : Int)) := (hKc.cell (a := ⟨w'.heap.size, 2, none⟩) hB9lt).trans s2
      have p3 : WC.cell? ⟨w'.heap.size, 3, none⟩ = some (.slice oa on oc) := (hKc.cell (a := ⟨w'.heap.size, 3, none⟩) hB9lt).trans s3
      have p7 : WC.cell? ⟨w'.heap.size + 1, 3, none⟩ = some (.int .i64 rerr) := (hKc.cell (a := ⟨w'.heap.size + 1, 3, none⟩) hB10lt).trans s7
      have HKc := Lib.hid (hKc.mono HIN2.out)
      clear hKc s0 s1 s2 s3 s4 s5 s6 s7 s8
      (repeat (first | go_values | go_skip | go_guarded | go_step | go_upon))
      refine NC.out.mono ?_
      rintro e w5 ⟨rfl, gs5, cap5, X5, hN5, hX5, hk5⟩
      have v0 : w5.cell? ⟨w'.heap.size, 0, none⟩ = some (.int .i64 1) := (hk5.cell (a := ⟨w'.heap.size, 0, none⟩) HP9.out).trans p0
      have v7 : w5.cell? ⟨w'.heap.size + 1, 3, none⟩ = some (.int .i64 rerr) := (hk5.cell (a := ⟨w'.heap.size + 1, 3, none⟩) HP10.out).trans p7
      have HK5 := Lib.hid (HK.out.trans (HWP.out.trans ((HKc.out.trans hk5).mono HPP.out)))
      have HN5 := Lib.hid (hN5.widen (Pr' := Pr) fun k _ hn hp => hn (HPP.out k hp))
      have HX5 := Lib.hid hX5
      clear hN5 hX5 hk5 NC p0 p1 p2 p3 p7
      dsimp only
      (repeat (first | go_values | go_skip | go_guarded | go_step | go_upon))
      refine ⟨n - (i + 1), by omega, i + 1, gs5, cap5, X5, rfl, by omega, ⟨rfl, rfl, rfl, rfl, rfl, rfl, rfl, by go_num⟩, by rw [HE5.out]; exact HN5.out, by rw [HE5.out]; exact HX5.out, by rw [HE5.out]; exact HOK5.out, HK5.out⟩
    by_cases k4 : kd = 4
    · subst k4
      obtain ⟨d1, d2⟩ := HSO.out.sz rfl
      rw [HTOP.out] at d1
      simp only at d1 d2
      subst d1 d2
      obtain rfl : okb = true := by rw [← HOKB.out, nstep_read _ _ _ _ (.inr rfl)]
      clear RDS0
      refine Code.wp_mono ?_ (r8_size _ _ _ _ _ _ _ _ _ _ _ _ _ _ _ W1 s0 s6 s7 s8 cT.out ⟨rfl, rfl, rfl, rfl, rfl, rfl, rfl, rfl, rfl, rfl, rfl⟩)
      rintro e a' WC ⟨rfl, ha, hWC⟩
      obtain ⟨u, rfl⟩ := frmX ha
      clear ha
      have hKc := below_keeps hWC
      have NC := Lib.hid (NCALL.out WC (hKc.mono HIN2.out) (HN1.out WC hWC))
      have p0 : WC.cell? ⟨w'.heap.size, 0, none⟩ = some (.int .i64 4) := (hKc.cell (a := ⟨w'.heap.size, 0, none⟩) hB9lt).trans s0
      have p1 : WC.cell? ⟨w'.heap.size, 1, none⟩ = some (.int .i64 of) := (hKc.cell (a := ⟨w'.heap.size, 1, none⟩) hB9lt).trans s1
      have p2 : WC.cell? ⟨w'.heap.size, 2, none⟩ = some (.int .i64 sz) := (hKc.cell (a := ⟨w'.heap.size, 2, none⟩) hB9lt).trans s2
      have p3 : WC.cell? ⟨w'.heap.size, 3, none⟩ = some (.slice oa on oc) := (hKc.cell (a := ⟨w'.heap.size, 3, none⟩) hB9lt).trans s3
      have p7 : WC.cell? ⟨w'.heap.size + 1, 3, none⟩ = some (.int .i64 0) := (hKc.cell (a := ⟨w'.heap.size + 1, 3, none⟩) hB10lt).trans s7
      have HKc := Lib.hid (hKc.mono HIN2.out)
      clear hKc s0 s1 s2 s3 s4 s5 s6 s7 s8
      (repeat (first | go_values | go_skip | go_guarded | go_step | go_upon))
      refine NC.out.mono ?_
      rintro e w5 ⟨rfl, gs5, cap5, X5, hN5, hX5, hk5⟩
      have v0 : w5.cell? ⟨w'.heap.size, 0, none⟩ = some (.int .i64 4) := (hk5.cell (a := ⟨w'.heap.size, 0, none⟩) HP9.out).trans p0
      have v7 : w5.cell? ⟨w'.heap.size + 1, 3, none⟩ = some (.int .i64 0) := (hk5.cell (a := ⟨w'.heap.size + 1, 3, none⟩) HP10.out).trans p7
      have HK5 := Lib.hid (HK.out.trans (HWP.out.trans ((HKc.out.trans hk5).mono HPP.out)))
      have HN5 := Lib.hid (hN5.widen (Pr' := Pr) fun k _ hn hp => hn (HPP.out k hp))
      have HX5 := Lib.hid hX5
      clear hN5 hX5 hk5 NC p0 p1 p2 p3 p7
      dsimp only
      (repeat (first | go_values | go_skip | go_guarded | go_step | go_upon))
      refine ⟨n - (i + 1), by omega, i + 1, gs5, cap5, X5, rfl, by omega, ⟨rfl, rfl, rfl, rfl, rfl, rfl, rfl, by go_num⟩, by rw [HE5.out]; exact HN5.out, by rw [HE5.out]; exact HX5.out, by rw [HE5.out]; exact HOK5.out, HK5.out⟩
    have b1 : (kd == 1) = false := by simpa using k1
    have b4 : (kd == 4) = false := by simpa using k4
    have hop5 := HSO.out.ok k1
    rw [HOKB.out] at hop5
    clear RDS0
    cases okb with
    | true =>
      obtain rfl : rerr = 0 := hop5.1 rfl
      refine Code.wp_mono ?_ (r8_other _ _ _ _ _ _ _ _ _ _ _ W1 s0 b1 b4 ⟨rfl, rfl, rfl, rfl, rfl, rfl, rfl, rfl, rfl, rfl, rfl⟩)
      rintro e a' WC ⟨rfl, ha, hWC⟩
      obtain ⟨u, rfl⟩ := frmX ha
      clear ha
      have hKc := below_keeps hWC
      have NC := Lib.hid (NCALL.out WC (hKc.mono HIN2.out) (HN1.out WC hWC))
      have p0 : WC.cell? ⟨w'.heap.size, 0, none⟩ = some (.int .i64 kd) := (hKc.cell (a := ⟨w'.heap.size, 0, none⟩) hB9lt).trans s0
      have p1 : WC.cell? ⟨w'.heap.size, 1, none⟩ = some (.int .i64 of) := (hKc.cell (a := ⟨w'.heap.size, 1, none⟩) hB9lt).trans s1
      have p2 : WC.cell? ⟨w'.heap.size, 2, none⟩ = some (.int .i64 sz) := (hKc.cell (a := ⟨w'.heap.size, 2, none⟩) hB9lt).trans s2
      have p3 : WC.cell? ⟨w'.heap.size, 3, none⟩ = some (.slice oa on oc) := (hKc.cell (a := ⟨w'.heap.size, 3, none⟩) hB9lt).trans s3
      have p7 : WC.cell? ⟨w'.heap.size + 1, 3, none⟩ = some (.int .i64 0) := (hKc.cell (a := ⟨w'.heap.size + 1, 3, none⟩) hB10lt).trans s7
      have HKc := Lib.hid (hKc.mono HIN2.out)
      clear hKc s0 s1 s2 s3 s4 s5 s6 s7 s8
      (repeat (first | go_values | go_skip | go_guarded | go_step | go_upon))
      refine NC.out.mono ?_
      rintro e w5 ⟨rfl, gs5, cap5, X5, hN5, hX5, hk5⟩
      have v0 : w5.cell? ⟨w'.heap.size, 0, none⟩ = some (.int .i64 kd) := (hk5.cell (a := ⟨w'.heap.size, 0, none⟩) HP9.out).trans p0
      have v7 : w5.cell? ⟨w'.heap.size + 1, 3, none⟩ = some (.int .i64 0) := (hk5.cell (a := ⟨w'.heap.size + 1, 3, none⟩) HP10.out).trans p7
      have HK5 := Lib.hid (HK.out.trans (HWP.out.trans ((HKc.out.trans hk5).mono HPP.out)))
      have HN5 := Lib.hid (hN5.widen (Pr' := Pr) fun k _ hn hp => hn (HPP.out k hp))
      have HX5 := Lib.hid hX5
      clear hN5 hX5 hk5 NC p0 p1 p2 p3 p7
      dsimp only
      (repeat (first | go_values | go_skip | go_guarded | go_step | go_upon))
      refine ⟨n - (i + 1), by omega, i + 1, gs5, cap5, X5, rfl, by omega, ⟨rfl, rfl, rfl, rfl, rfl, rfl, rfl, by go_num⟩, by rw [HE5.out]; exact HN5.out, by rw [HE5.out]; exact HX5.out, by rw [HE5.out]; exact HOK5.out, HK5.out⟩
    | false =>
      obtain rfl : rerr = 2 := hop5.2 rfl
      refine Code.wp_mono ?_ (r8_other _ _ _ _ _ _ _ _ _ _ _ W1 s0 b1 b4 ⟨rfl, rfl, rfl, rfl, rfl, rfl, rfl, rfl, rfl, rfl, rfl⟩)
      rintro e a' WC ⟨rfl, ha, hWC⟩
      obtain ⟨u, rfl⟩ := frmX ha
      clear ha
      have hKc := below_keeps hWC
      have NC := Lib.hid (NCALL.out WC (hKc.mono HIN2.out) (HN1.out WC hWC))
      have p0 : WC.cell? ⟨w'.heap.size, 0, none⟩ = some (.int .i64 kd) := (hKc.cell (a := ⟨w'.heap.size, 0, none⟩) hB9lt).trans s0
      have p1 : WC.cell? ⟨w'.heap.size, 1, none⟩ = some (.int .i64 of) := (hKc.cell (a := ⟨w'.heap.size, 1, none⟩) hB9lt).trans s1
      have p2 : WC.cell? ⟨w'.heap.size, 2, none⟩ = some (.int .i64 sz) := (hKc.cell (a := ⟨w'.heap.size, 2, none⟩) hB9lt).trans s2
      have p3 : WC.cell? ⟨w'.heap.size, 3, none⟩ = some (.slice oa on oc) := (hKc.cell (a := ⟨w'.heap.size, 3, none⟩) hB9lt).trans s3
      have p7 : WC.cell? ⟨w'.heap.size + 1, 3, none⟩ = some (.int .i64 2) := (hKc.cell (a := ⟨w'.heap.size + 1, 3, none⟩) hB10lt).trans s7
      have HKc := Lib.hid (hKc.mono HIN2.out)
      clear hKc s0 s1 s2 s3 s4 s5 s6 s7 s8
      (repeat (first | go_values | go_skip | go_guarded | go_step | go_upon))
      refine NC.out.mono ?_
      rintro e w5 ⟨rfl, gs5, cap5, X5, hN5, hX5, hk5⟩
      have v0 : w5.cell? ⟨w'.heap.size, 0, none⟩ = some (.int .i64 kd) := (hk5.cell (a := ⟨w'.heap.size, 0, none⟩) HP9.out).trans p0
      have v7 : w5.cell? ⟨w'.heap.size + 1, 3, none⟩ = some (.int .i64 2) := (hk5.cell (a := ⟨w'.heap.size + 1, 3, none⟩) HP10.out).trans p7
      have HK5 := Lib.hid (HK.out.trans (HWP.out.trans ((HKc.out.trans hk5).mono HPP.out)))
      have HN5 := Lib.hid (hN5.widen (Pr' := Pr) fun k _ hn hp => hn (HPP.out k hp))
      have HX5 := Lib.hid hX5
      clear hN5 hX5 hk5 NC p0 p1 p2 p3 p7
      dsimp only
      (repeat (first | go_values | go_skip | go_guarded | go_step | go_upon))
      refine ⟨n - (i + 1), by omega, i + 1, gs5, cap5, X5, rfl, by omega, ⟨rfl, rfl, rfl, rfl, rfl, rfl, rfl, by go_num⟩, by rw [HE5.out]; exact HN5.out, by rw [HE5.out]; exact HX5.out, by rw [HE5.out]; exact HOK5.out, HK5.out⟩
  · obtain rfl : i = n := by omega
    clear hrd hk hexit hok hN hX hres hst hfr
    (repeat (first | go_values | go_skip | go_guarded | go_step | go_upon))
    exact HE.out _ _ ⟨rfl, rfl, rfl, rfl, rfl, rfl, rfl, rfl⟩ HK.out

end Go.Proofs.YtkkliejgmgmebaaGreatDoor

namespace Go.Proofs.YtkkliejgmgmebaaGreatDoor
open Go.RowKit

set_option maxRecDepth 100000 in
set_option maxHeartbeats 8000000 in
theorem rolledLaw_any (w : World) (bs : List UInt8) (L : List Op) (R : List RS) (sa : Option Addr) (sn sc : Nat) (a : Option Addr) (n c : Nat) (ar : Option Addr) (cr : Nat)
    (hs : Rd (Old w) w sa sn bs) (hsc : sn ≤ sc) (hsn : sn ≤ 131072) (hL : L.length = n) (hn : n ≤ 200) (hnc : n ≤ c) (hncr : n ≤ cr) (hrd : rdO (Old w) w a L) (hres : rdR w ar R) (hR : R.length = n) (hst : ∀ (i : Nat) o x, L[i]? = some o → R[i]? = some x → StepOk (nseq (nsNew bs) (L.take i)) o.kind o.off o.size o.d x.r) (hfr : fitsR L) :
    Calls Tryz.prog 7 #[.slice sa sn sc, .slice a n c, .slice ar n cr] w fun e w' => e = .returned (.bool true) ∧ Keeps (Old w) w w' := by
  have NN := Lib.hid (newNested_any w sn sc sa bs hs hsc (by omega))
  have HS := Lib.hid hs
  have HRD := Lib.hid hrd
  have HLN := Lib.hid hL
  have HRES := Lib.hid hres
  have HRN := Lib.hid hR
  have HST := Lib.hid hst
  have HFR := Lib.hid hfr
  clear hs hrd hL hres hR hst hfr
  go_enter Tryz.func7, Tryz.ntmps7
  (repeat (first | go_values | go_skip | go_guarded | go_step | go_upon))
  refine NN.out.mono ?_
  rintro e w1 ⟨gn, gs, vd, vk, vw, rfl, hN, hk1⟩
  have HN := Lib.hid hN
  have HK1 := Lib.hid hk1
  clear hN hk1 NN
  dsimp only
  (repeat (first | go_values | go_skip | go_guarded | go_step | go_upon))
  refine (lcalls_any (Old w) w1 a n c L (old_mono2 HK1.out) HLN.out (by omega) hnc (HRD.out.keeps HK1.out)).mono ?_
  rintro e w2 ⟨ao, co, rfl, hco, hro, hk2⟩
  have hin2 : Inw (Since (Old w) w1 w2) w2 := fun k hk => hk.elim (fun h => Nat.lt_of_lt_of_le h (Nat.le_trans HK1.out.size hk2.size)) fun h => h.2
  have hN2 : NIs (Since (Old w) w1 w2) w2 gn gs 1 [⟨vd, vk, vw, Fl.new bs⟩] (nsNew bs).opn (nsNew bs).most := by
    show NIs _ _ _ _ _ _ false bs.length
    rw [HS.out.1]
    exact (HN.out.widen (Pr' := Since (Old w) w1 w2) fun k hk hn hor => hor.elim hn fun h => by omega).keeps hk2 fun k hk _ => hk
  have HK2 := Lib.hid (HK1.out.trans (hk2.mono (old_mono2 HK1.out)))
  have LP := Lib.hid (fun Q0 vL A hA hx => rolled_loop Q0 (Since (Old w) w1 w2) w2 gn gs 1 _ (nsNew bs) L R ao ar n co cr vL A hin2 HLN.out (by omega) hco hncr hro (fun w' hk => HRES.out.keeps (HK2.out.trans (hk.mono fun k h => .inl h))) HRN.out HST.out HFR.out hN2 rfl (NOk.new bs (by rw [HS.out.1]; omega)) rfl hA hx)
  clear hro hk2 hin2 hN2 HN
  dsimp only
  (repeat (first | go_values | go_skip | go_guarded | go_step | go_upon))
  refine LP.out _ (.slice a n c) _ ⟨rfl, rfl, rfl, rfl, rfl, rfl, rfl, rfl⟩ ?_
  intro a' w4 ha4 hk4
  obtain ⟨u, rfl⟩ := frmU ha4
  have HK4 := Lib.hid (HK2.out.trans (hk4.mono fun k h => .inl h))
  clear ha4 hk4 LP
  simp only [Exit.inBlock, ↓reduceIte]
  (repeat (first | go_values | go_skip | go_guarded | go_step | go_upon))
  go_ret
  exact ⟨rfl, HK4.out⟩

end Go.Proofs.YtkkliejgmgmebaaGreatDoor
