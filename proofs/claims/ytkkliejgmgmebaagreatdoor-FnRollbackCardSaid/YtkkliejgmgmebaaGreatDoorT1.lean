/-
  laws.nested: its loop.
-/
import Derived.Test.YtkkliejgmgmebaaGreatDoorQe
import Derived.Test.YtkkliejgmgmebaaGreatDoorZa
import Derived.Deep.RegionHeld3
import Derived.Deep.RegionLaw
namespace Go.Proofs.YtkkliejgmgmebaaGreatDoor
open Go.RowKit

noncomputable def bodyT : Code := ((Tryz.f5.body.bind firstLoop).getD .skip)

structure frmTp (s4 s20 s21 s22 : Value) (a : Act) : Prop where
  df : a.defers = []
  sz : a.tmps.size = 55
  h4 : a.tmps.getD 4 undef = s4
  h20 : a.tmps.getD 20 undef = s20
  h21 : a.tmps.getD 21 undef = s21
  h22 : a.tmps.getD 22 undef = s22
set_option maxRecDepth 100000 in
theorem frmT {s4 s20 s21 s22 : Value} {a : Act} (h : frmTp s4 s20 s21 s22 a) : ∃ u : Nat → Value, a = ⟨#[u 0, u 1, u 2, u 3, s4, u 5, u 6, u 7, u 8, u 9, u 10, u 11, u 12, u 13, u 14, u 15, u 16, u 17, u 18, u 19, s20, s21, s22, u 23, u 24, u 25, u 26, u 27, u 28, u 29, u 30, u 31, u 32, u 33, u 34, u 35, u 36, u 37, u 38, u 39, u 40, u 41, u 42, u 43, u 44, u 45, u 46, u 47, u 48, u 49, u 50, u 51, u 52, u 53, u 54], []⟩ := by
  obtain ⟨F, df⟩ := a
  obtain ⟨rfl, hs, rfl, rfl, rfl, rfl⟩ := h
  refine ⟨fun i => F.getD i undef, ?_⟩
  have e := open_frame F
  rw [hs] at e
  exact congrArg (Act.mk · []) e

theorem fitsR.snoc {L : List Op} {o : Op} {len : Nat} (h : fitsR L) (hf : fitsB len o.kind o.off o.size o.n = true) (h3 : o.kind ≠ 3) (hd : depth L < 30) : fitsR (L ++ [o]) := by
  intro i p hp
  have hi : i < L.length + 1 := by have := (List.getElem?_eq_some_iff.1 hp).1; simpa using this
  by_cases hlt : i < L.length
  · rw [List.getElem?_append_left hlt] at hp
    rw [List.take_append_of_le_length (by omega)]
    exact h i p hp
  · obtain rfl : i = L.length := by omega
    rw [List.getElem?_append_right (Nat.le_refl _), Nat.sub_self] at hp
    simp only [List.getElem?_cons_zero, Option.some.injEq] at hp
    subst hp
    rw [List.take_left' rfl]
    exact ⟨⟨len, hf⟩, h3, hd⟩

theorem depth_le (L : List Op) : depth L ≤ L.length := by
  have key : ∀ (M : List Op) (t : Nat), M.foldl (fun t o => stepT t o.kind) t ≤ t + M.length := by
    intro M
    induction M with
    | nil => intro t; exact Nat.le_refl _
    | cons o M ih =>
      intro t
      have h5 := ih (stepT t o.kind)
      have h6 : stepT t o.kind ≤ t + 1 := by
        unfold stepT
        split
        · exact Nat.le_refl _
        · split <;> omega
      simp only [List.foldl_cons, List.length_cons]
      omega
  have h5 := key L 0
  rw [Nat.zero_add] at h5
  exact h5

theorem Keeps.sameHeap {W V w2 : World} (h : Keeps (Old V) V w2) (hv : Keeps (Old W) W V) : Keeps (Old W) W w2 := hv.trans (h.mono fun _ hk => Nat.lt_of_lt_of_le hk hv.size)

theorem nseq_len {L : List Op} (N0 : Ns) (h1 : N0.Fs.length = 1) (hf : fitsR L) : (nseq N0 L).Fs.length = depth L + 1 := by
  have key : ∀ i, i ≤ L.length → (nseq N0 (L.take i)).Fs.length = depth (L.take i) + 1 := by
    intro i
    induction i with
    | zero => intro _; rw [List.take_zero]; exact h1
    | succ i ih =>
      intro hi
      obtain ⟨o, ho⟩ : ∃ o, L[i]? = some o := ⟨_, List.getElem?_eq_getElem (by omega)⟩
      obtain ⟨⟨len, hfl⟩, h3, -⟩ := hf i o ho
      rw [take_snoc ho, nseq_snoc, depth_snoc]
      exact nstep_len _ _ _ _ _ _ (ih (by omega)) (kind_cases hfl h3)
  have := key L.length (Nat.le_refl _)
  rw [List.take_length] at this
  exact this

set_option maxRecDepth 100000 in
set_option maxHeartbeats 8000000 in
theorem nest_loop (Q0 : Exit → Act → World → Prop) (Pr : Nat → Prop) (w : World) (gn gs cap : Nat) (X : List FV) (N0 : Ns) (L : List Op) (a : Option Addr) (n c : Nat) (A : Act)
    (hin : Inw Pr w) (hL : L.length = n) (hn : n ≤ 1000) (hnc : n ≤ c) (hrd : rdO Pr w a L) (hN : NIs Pr w gn gs cap X N0.opn N0.most) (hX : X.map FV.F = N0.Fs) (hok : NOk N0) (h1 : N0.Fs.length = 1)
    (hA : frmTp (.pointer (some ⟨gn, 0, none⟩)) (.slice a n c) (.int .i64 (n : Int)) (.int .i64 ((0 : Nat) : Int)) A)
    (hout : ∀ (a' : Act) w', a'.defers = [] → a'.tmps.getD 4 undef = .pointer (some ⟨gn, 0, none⟩) → a'.tmps.getD 5 undef = .bool false → Keeps Pr w w' → Q0 .ret a' w')
    (hexit : ∀ a' w' gs' cap' X', frmTp (.pointer (some ⟨gn, 0, none⟩)) (.slice a n c) (.int .i64 (n : Int)) (.int .i64 (n : Int)) a' → NIs Pr w' gn gs' cap' X' (nseq N0 L).opn (nseq N0 L).most → X'.map FV.F = (nseq N0 L).Fs → fitsR L → NOk (nseq N0 L) → Keeps Pr w w' → Q0 (.exit 0) a' w') :
    Code.wp Tryz.prog (Code.loop bodyT) Q0 A w := by
  refine wp_loop_ghost (fun k a' w' => ∃ (i gs cap : Nat) (X : List FV), k = n - i ∧ i ≤ n ∧ frmTp (.pointer (some ⟨gn, 0, none⟩)) (.slice a n c) (.int .i64 (n : Int)) (.int .i64 (i : Int)) a' ∧ NIs Pr w' gn gs cap X (nseq N0 (L.take i)).opn (nseq N0 (L.take i)).most ∧ X.map FV.F = (nseq N0 (L.take i)).Fs ∧ NOk (nseq N0 (L.take i)) ∧ fitsR (L.take i) ∧ Keeps Pr w w') n
    ⟨0, gs, cap, X, rfl, Nat.zero_le _, hA, by rw [List.take_zero]; exact hN, by rw [List.take_zero]; exact hX, by rw [List.take_zero]; exact hok, fun j o ho => (by rw [List.take_zero] at ho; cases ho), Keeps.refl _ _⟩ ?_
  rintro k a' w' ⟨i, gs, cap, X, rfl, hi, ha, hN, hX, hok, hfr, hk⟩
  obtain ⟨u, rfl⟩ := frmT ha
  clear ha hA
  have HE := Lib.hid hexit
  have HO := Lib.hid hout
  have HK := Lib.hid hk
  have HFR := Lib.hid hfr
  have HXX := Lib.hid hX
  have HOK := Lib.hid hok
  have HNN := Lib.hid hN
  conv => arg 2; whnf
  by_cases hlt : i < n
  · obtain ⟨o, ho⟩ : ∃ o, L[i]? = some o := ⟨_, List.getElem?_eq_getElem (by omega)⟩
    rcases hrd with h0 | ⟨b, off, rfl, hb, hc⟩
    · subst h0; cases ho
    have hT := take_snoc ho
    obtain ⟨kd, of, sz, oa, on, oc, od⟩ := o
    have hop := (hc i _ ho).keeps hb hk
    have x0 : w'.cell? ⟨b, off + i * 4, none⟩ = some (.int .i64 kd) := hop.c0
    have x1 : w'.cell? ⟨b, off + i * 4 + 1, none⟩ = some (.int .i64 of) := hop.c1
    have x2 : w'.cell? ⟨b, off + i * 4 + 2, none⟩ = some (.int .i64 sz) := hop.c2
    have x3 : w'.cell? ⟨b, off + i * 4 + 3, none⟩ = some (.slice oa on oc) := hop.c3
    have hnc2 : on ≤ oc := hop.nc
    have hon : on ≤ 9223372036854775807 := Nat.le_trans hnc2 hop.cb
    have hlX : X.length = depth (L.take i) + 1 := by
      have e := nseq_len N0 h1 hfr
      rw [← hX, List.length_map] at e
      exact e
    have hdl : depth (L.take i) ≤ i := by
      have h5 := depth_le (L.take i)
      rw [List.length_take] at h5
      omega
    obtain ⟨m, hm⟩ : ∃ m, X.length = m + 1 := ⟨_, hlX⟩
    have hinw := hin.mono hk.size
    obtain ⟨x, hx⟩ : ∃ x, X[m]? = some x := ⟨_, List.getElem?_eq_getElem (by omega)⟩
    have hxl : x.F.d.length ≤ 262144 := hok.2 _ (by rw [← hX]; exact List.mem_map_of_mem (List.mem_of_getElem? hx))
    -- the world with the box
    have hB1 : Keeps (Old w') w' (w'.alloc (.cells #[.int .i64 kd, .int .i64 of, .int .i64 sz, .slice oa on oc] 47)) := Keeps.alloc (fun _ h => h) _
    obtain ⟨q0, -⟩ := cells_at (heap_alloc_new w' (.cells #[.int .i64 kd, .int .i64 of, .int .i64 sz, .slice oa on oc] 47))
    have z0 := q0 0
    have z1 := q0 1
    have z2 := q0 2
    have z3 := q0 3
    simp only [List.getElem?_toArray, List.getElem?_cons_succ, List.getElem?_cons_zero] at z0 z1 z2 z3
    have hN1 := hN.kept (w' := w'.alloc (.cells #[.int .i64 kd, .int .i64 of, .int .i64 sz, .slice oa on oc] 47)) (fun k hk' _ => heap_alloc_lt _ _ hk')
    have hinw1 := hinw.mono hB1.size
    have hrd1 : Rd Pr _ oa on od := hop.rd.keeps (hB1.mono hinw)
    have hBlt : w'.heap.size < (w'.alloc (.cells #[.int .i64 kd, .int .i64 of, .int .i64 sz, .slice oa on oc] 47)).heap.size := by simp
    obtain ⟨W1, hW1⟩ : ∃ W1, w'.alloc (.cells #[.int .i64 kd, .int .i64 of, .int .i64 sz, .slice oa on oc] 47) = W1 := ⟨_, rfl⟩
    rw [hW1] at hB1 z0 z1 z2 z3 hN1 hinw1 hrd1 hBlt
    have HN1 := Lib.hid (fun (V : World) (hV : V.heap = W1.heap) => hN1.kept (w' := V) fun k _ _ => by rw [hV])
    have hgn := lt_of_heap hN1.nest
    have n0 := hN1.cell0.1
    have hcap := hN1.capn
    rw [hm] at n0 hcap
    obtain ⟨g, hgb, hgo, hf, -⟩ := hN1.file hx
    obtain ⟨t0, -⟩ := hf.cells
    rw [hgb, hgo] at t0
    obtain ⟨ad, cd, ed, -⟩ := hf.v.rd.slice
    rw [ed] at t0
    have hgs : gs < W1.heap.size := (hN1.row.own (k := gs) rfl).1
    obtain ⟨B, hB⟩ : ∃ B, fitsB x.F.d.length kd of sz on = B := ⟨_, rfl⟩
    have hfit : ∀ (V : World), V.heap = W1.heap → Calls Tryz.prog 14 #[.pointer (some ⟨gs, m * 3, none⟩), .agg #[.int .i64 kd, .int .i64 of, .int .i64 sz, .slice oa on oc]] V fun e w2 => e = .returned (.bool B) ∧ Keeps (Old V) V w2 := fun V hV => by
      have h5 := fits_any (Old V) V ⟨gs, m * 3, [], []⟩ ad x.F.d.length cd kd of sz oa on oc (by show V.cell? ⟨gs, m * 3, none⟩ = _; rw [← t0]; exact World.cell?_of_block (by rw [hV])) (by rw [hV]; exact hgs) (by omega) hon (fun _ h => h)
      rw [hB] at h5
      exact h5
    have htop : ∀ (V : World), V.heap = W1.heap → Calls Tryz.prog 13 #[.pointer (some ⟨gn, 0, none⟩)] V fun e w2 => e = .returned (.pointer (some ⟨gs, m * 3, none⟩)) ∧ ∃ q, w2 = World.drewN V q := fun V hV => by
      have h5 := top_any Pr V gn gs cap X _ _ (HN1.out V hV) (by omega) (by omega)
      rw [hm, Nat.add_sub_cancel] at h5
      exact h5
    have FIT := Lib.hid hfit
    have TOP := Lib.hid htop
    have HS1 := Lib.hid (⟨z0, z1, z2, z3, n0⟩ : W1.cell? ⟨w'.heap.size, 0, none⟩ = some (.int .i64 kd) ∧ W1.cell? ⟨w'.heap.size, 1, none⟩ = some (.int .i64 of) ∧ W1.cell? ⟨w'.heap.size, 2, none⟩ = some (.int .i64 sz) ∧ W1.cell? ⟨w'.heap.size, 3, none⟩ = some (.slice oa on oc) ∧ W1.cell? ⟨gn, 0, none⟩ = some (.slice (some ⟨gs, 0, none⟩) (m + 1) cap))
    have HS2 := Lib.hid (fun (V V2 : World) (hV : V.heap = W1.heap) (h2 : Keeps (Old V) V V2) => (⟨((h2.cell (a := ⟨w'.heap.size, 0, none⟩) (by show _ < V.heap.size; rw [hV]; exact hBlt)).trans (World.cell?_of_block (by rw [hV]))).trans z0, ((h2.cell (a := ⟨w'.heap.size, 1, none⟩) (by show _ < V.heap.size; rw [hV]; exact hBlt)).trans (World.cell?_of_block (by rw [hV]))).trans z1, ((h2.cell (a := ⟨w'.heap.size, 2, none⟩) (by show _ < V.heap.size; rw [hV]; exact hBlt)).trans (World.cell?_of_block (by rw [hV]))).trans z2, ((h2.cell (a := ⟨w'.heap.size, 3, none⟩) (by show _ < V.heap.size; rw [hV]; exact hBlt)).trans (World.cell?_of_block (by rw [hV]))).trans z3, ((h2.cell (a := ⟨gn, 0, none⟩) (by show _ < V.heap.size; rw [hV]; exact hgn)).trans (World.cell?_of_block (by rw [hV]))).trans n0⟩ : V2.cell? ⟨w'.heap.size, 0, none⟩ = some (.int .i64 kd) ∧ V2.cell? ⟨w'.heap.size, 1, none⟩ = some (.int .i64 of) ∧ V2.cell? ⟨w'.heap.size, 2, none⟩ = some (.int .i64 sz) ∧ V2.cell? ⟨w'.heap.size, 3, none⟩ = some (.slice oa on oc) ∧ V2.cell? ⟨gn, 0, none⟩ = some (.slice (some ⟨gs, 0, none⟩) (m + 1) cap)))
    have HB1 := Lib.hid hB1
    have HIW := Lib.hid hinw
    have HIW1 := Lib.hid hinw1
    have HRD1 := Lib.hid hrd1
    have HT := Lib.hid hT
    have HM := Lib.hid hm
    have HDL := Lib.hid hlX
    have HMI : m ≤ 1000 := by omega
    have HW1 := Lib.hid hW1
    have HBB := Lib.hid hB
    have HTOP := Lib.hid (top_of (N := nseq N0 (L.take i)) (n := m) (F := x.F) (by rw [← hX, List.length_map]; exact hm) (by rw [← hX, List.getElem?_map, hx]; rfl))
    have HEV := Lib.hid (hN.even hx)
    clear hc hop hN hX hok hfr hk hexit hout ho hT hlX hdl hinw hx hxl hB1 q0 hN1 hinw1 hrd1 hgb hgo hf t0 ed hgs hm hBlt hW1 hB hfit htop z0 z1 z2 z3 n0 hgn
    (repeat (first | go_values | go_skip | go_guarded | go_step | go_upon))
    rw [HW1.out]
    have KEY : ∀ V w3, V.heap = W1.heap → Keeps (Old W1) W1 V → Keeps (Old V) V w3 → Keeps Pr w w3 := fun V w3 h5 h6 h7 => ((HK.out.trans (HB1.out.mono HIW.out)).trans (h6.mono HIW1.out)).trans (h7.mono fun k hk => by show k < V.heap.size; rw [h5]; exact HIW1.out k hk)
    have KEY := Lib.hid KEY
    obtain ⟨z0, z1, z2, z3, n0⟩ := HS1.out
    cases B with
    | false =>
      refine wp_region_noPanic ?_
      first
        | go_region_law
            (first
              | (go_simp; go_at_call 13; refine (TOP.out _ (by rfl)).mono ?_; rintro e w2 ⟨rfl, q, hw2⟩; have HH2 := Lib.hid (show w2.heap = W1.heap by rw [hw2]; rfl); have HV2 := Lib.hid (show Keeps (Old W1) W1 w2 by rw [hw2]; exact (Keeps.drew _ _).trans ⟨rfl, rfl, rfl, Nat.le_refl _, fun _ _ => rfl⟩); obtain ⟨t0, t1, t2, t3, t4⟩ := HS2.out W1 w2 rfl HV2.out; clear hw2; dsimp only)
              | (go_simp; go_at_call 14; refine (FIT.out _ (by exact HH2.out)).mono ?_; rintro e w3 ⟨rfl, hk3⟩; obtain ⟨r0, r1, r2, r3, r4⟩ := HS2.out _ _ (by exact HH2.out) hk3; have HK3 := Lib.hid hk3; clear hk3; dsimp only))
        | fail "no"
      all_goals
        refine NoPanic.normal ?_
        (repeat (first | go_values | go_skip | go_guarded | go_step | go_upon))
        exact HO.out _ _ rfl rfl rfl (KEY.out _ _ HH2.out HV2.out HK3.out)
    | true =>
      by_cases k3 : kd = 3
      · subst k3
        refine wp_region_noPanic ?_
        first
          | go_region_law
              (first
                | (go_simp; go_at_call 13; refine (TOP.out _ (by rfl)).mono ?_; rintro e w2 ⟨rfl, q, hw2⟩; have HH2 := Lib.hid (show w2.heap = W1.heap by rw [hw2]; rfl); have HV2 := Lib.hid (show Keeps (Old W1) W1 w2 by rw [hw2]; exact (Keeps.drew _ _).trans ⟨rfl, rfl, rfl, Nat.le_refl _, fun _ _ => rfl⟩); obtain ⟨t0, t1, t2, t3, t4⟩ := HS2.out W1 w2 rfl HV2.out; clear hw2; dsimp only)
                | (go_simp; go_at_call 14; refine (FIT.out _ (by exact HH2.out)).mono ?_; rintro e w3 ⟨rfl, hk3⟩; obtain ⟨r0, r1, r2, r3, r4⟩ := HS2.out _ _ (by exact HH2.out) hk3; have HK3 := Lib.hid hk3; clear hk3; dsimp only))
          | fail "no"
        all_goals
          refine NoPanic.normal ?_
          (repeat (first | go_values | go_skip | go_guarded | go_step | go_upon))
          exact HO.out _ _ rfl rfl rfl (KEY.out _ _ HH2.out HV2.out HK3.out)
      have b3 : (kd == 3) = false := by simpa using k3
      by_cases h20 : 20 < m + 1
      · have hI : (20 : Int) < (m : Int) + 1 := by omega
        refine wp_region_noPanic ?_
        first
          | go_region_law
              (first
                | (go_simp; go_at_call 13; refine (TOP.out _ (by rfl)).mono ?_; rintro e w2 ⟨rfl, q, hw2⟩; have HH2 := Lib.hid (show w2.heap = W1.heap by rw [hw2]; rfl); have HV2 := Lib.hid (show Keeps (Old W1) W1 w2 by rw [hw2]; exact (Keeps.drew _ _).trans ⟨rfl, rfl, rfl, Nat.le_refl _, fun _ _ => rfl⟩); obtain ⟨t0, t1, t2, t3, t4⟩ := HS2.out W1 w2 rfl HV2.out; clear hw2; dsimp only)
                | (go_simp; go_at_call 14; refine (FIT.out _ (by exact HH2.out)).mono ?_; rintro e w3 ⟨rfl, hk3⟩; obtain ⟨r0, r1, r2, r3, r4⟩ := HS2.out _ _ (by exact HH2.out) hk3; have HK3 := Lib.hid hk3; clear hk3; dsimp only))
          | fail "no"
        all_goals
          refine NoPanic.normal ?_
          (repeat (first | go_values | go_skip | go_guarded | go_step | go_upon))
          exact HO.out _ _ rfl rfl rfl (KEY.out _ _ HH2.out HV2.out HK3.out)
      have hI : ¬ (20 : Int) < (m : Int) + 1 := by omega
      have hI2 : (m : Int) + 1 ≤ 20 := by omega
      refine wp_region_noPanic ?_
      first
        | go_region_law
            (first
              | (go_simp; go_at_call 13; refine (TOP.out _ (by rfl)).mono ?_; rintro e w2 ⟨rfl, q, hw2⟩; have HH2 := Lib.hid (show w2.heap = W1.heap by rw [hw2]; rfl); have HV2 := Lib.hid (show Keeps (Old W1) W1 w2 by rw [hw2]; exact (Keeps.drew _ _).trans ⟨rfl, rfl, rfl, Nat.le_refl _, fun _ _ => rfl⟩); obtain ⟨t0, t1, t2, t3, t4⟩ := HS2.out W1 w2 rfl HV2.out; clear hw2; dsimp only)
              | (go_simp; go_at_call 14; refine (FIT.out _ (by exact HH2.out)).mono ?_; rintro e w3 ⟨rfl, hk3⟩; obtain ⟨r0, r1, r2, r3, r4⟩ := HS2.out _ _ (by exact HH2.out) hk3; have HK3 := Lib.hid hk3; clear hk3; dsimp only))
        | fail "no"
      all_goals
        refine NoPanic.normal ?_
        have hN3 := (HN1.out w2 HH2.out).keeps HK3.out (fun k hk _ => hk)
        have hK3 := KEY.out _ _ HH2.out HV2.out HK3.out
        have hrd3 : Rd Pr w3 oa on od := ((HRD1.out.keeps (HV2.out.mono HIW1.out)).keeps (HK3.out.mono fun k hk => by show k < w2.heap.size; rw [HH2.out]; exact HIW1.out k hk))
        have hnc := ncall_any kd of sz oa on oc x.F.d.length od (hin.mono hK3.size) hN3 (by rw [HM.out]; omega) (by rw [HM.out]; omega) hrd3 hnc2 (by rw [HXX.out]; exact HOK.out) HBB.out k3
        rw [HXX.out] at hnc
        have NC := Lib.hid hnc
        have HK3' := Lib.hid hK3
        clear hN3 hK3 hrd3 hnc
        (repeat (first | go_values | go_skip | go_guarded | go_step | go_upon))
        refine NC.out.mono ?_
        rintro e w5 ⟨rfl, gs5, cap5, X5, hN5, hX5, hk5⟩
        have HN5 := Lib.hid hN5
        have HX5 := Lib.hid hX5
        have HK5 := Lib.hid (HK3'.out.trans hk5)
        clear hN5 hX5 hk5 NC
        dsimp only
        (repeat (first | go_values | go_skip | go_guarded | go_step | go_upon))
        have e5 : nseq N0 (L.take (i + 1)) = (nstep (nseq N0 (L.take i)) kd of sz od).1 := by rw [HT.out, nseq_snoc]
        refine ⟨n - (i + 1), by omega, i + 1, gs5, cap5, X5, rfl, by omega, ⟨rfl, rfl, rfl, rfl, rfl, by go_num⟩, by rw [e5]; exact HN5.out, by rw [e5]; exact HX5.out, ?_, ?_, HK5.out⟩
        · rw [e5]
          exact HOK.out.step (by rw [← HXX.out, List.length_map, HM.out]; omega) (by rw [HTOP.out]; exact HEV.out) HBB.out k3 HRD1.out.1
        · rw [HT.out]
          exact HFR.out.snoc (len := x.F.d.length) HBB.out k3 (by have := HM.out; have := HDL.out; omega)
  · obtain rfl : i = n := by omega
    rw [List.take_of_length_le (by omega)] at hN hX hfr hok
    have HOK2 := Lib.hid hok
    have HN2 := Lib.hid hN
    have HX2 := Lib.hid hX
    have HF2 := Lib.hid hfr
    clear hrd hk hexit hout hok hfr hN hX HNN HXX HFR HOK
    (repeat (first | go_values | go_skip | go_guarded | go_step | go_upon))
    exact HE.out _ _ _ _ _ ⟨rfl, rfl, rfl, rfl, rfl, rfl⟩ HN2.out HX2.out HF2.out HOK2.out HK.out

end Go.Proofs.YtkkliejgmgmebaaGreatDoor
