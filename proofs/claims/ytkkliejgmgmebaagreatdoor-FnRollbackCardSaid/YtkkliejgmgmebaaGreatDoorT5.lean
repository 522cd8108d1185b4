/-
  laws.FnRollback.
-/
import Derived.Test.YtkkliejgmgmebaaGreatDoorTa
namespace Go.Proofs.YtkkliejgmgmebaaGreatDoor
open Go.RowKit

set_option maxRecDepth 100000 in
set_option maxHeartbeats 1000000 in
theorem rollback_law (w : World) (bs : List UInt8) (L : List Op) (sa : Option Addr) (sn sc : Nat) (a : Option Addr) (n c : Nat) (va vb : Addr)
    (hs : Rd (Old w) w sa sn bs) (hsc : sn ≤ sc) (hL : L.length = n) (hnc : n ≤ c) (hcb : c ≤ 9223372036854775807) (hrd : rdO (Old w) w a L) (hV : Vars (Old w) w va vb) :
    Calls Tryz.prog 3 #[.slice sa sn sc, .slice a n c] w fun e w' => e = .returned (.bool true) ∧ Below w.heap.size w w' := by
  have HS := Lib.hid hs
  have HRD := Lib.hid hrd
  have HV := Lib.hid hV
  have HLN := Lib.hid hL
  clear hs hrd hV hL
  by_cases h1 : 2147483647 < sn
  · go_enter Tryz.func3, Tryz.ntmps3
    (repeat (first | go_values | go_skip | go_guarded | go_step | go_upon))
    go_ret
    exact ⟨rfl, Below.refl _ _⟩
  have h1' : sn ≤ 2147483647 := by omega
  clear h1
  go_enter Tryz.func3, Tryz.ntmps3
  (repeat (first | go_values | go_skip | go_guarded | go_step | go_upon))
  refine (zzFits3_any w a n c L HLN.out (by omega) hnc HRD.out).mono ?_
  rintro e w1 ⟨⟨b1, rfl⟩, hk1⟩
  have HK1 := Lib.hid hk1
  have H1 := Lib.hid (old_mono2 hk1)
  clear hk1
  dsimp only
  cases b1
  · (repeat (first | go_values | go_skip | go_guarded | go_step | go_upon))
    go_ret
    exact ⟨rfl, HK1.out.below fun _ h => h⟩
  (repeat (first | go_values | go_skip | go_guarded | go_step | go_upon))
  refine (nested_any w1 bs L sa sn sc a n c ((HS.out.keeps HK1.out).mono H1.out) hsc h1' HLN.out hnc hcb ((HRD.out.keeps HK1.out).mono H1.out)).mono ?_
  rintro e w2 ⟨gn, b, rfl, hk2, hb⟩
  have HK2 := Lib.hid (HK1.out.trans (hk2.mono H1.out))
  have HB := Lib.hid hb
  clear hk2 hb
  dsimp only
  cases b
  · (repeat (first | go_values | go_skip | go_guarded | go_step | go_upon))
    go_ret
    exact ⟨rfl, HK2.out.below fun _ h => h⟩
  obtain ⟨hn200, hbs, hfr, hok, hopn, gs, cap, X, hN, hX⟩ := HB.out rfl
  have hsn : sn ≤ 131072 := by have := HS.out.1; omega
  have hn2 : n ≤ 200 := by have := HLN.out; omega
  have HN := Lib.hid hN
  have HX := Lib.hid hX
  have HFR := Lib.hid hfr
  have HOP := Lib.hid hopn
  have HOK := Lib.hid hok
  clear hn200 hbs hfr hok hopn hN hX HB
  (repeat (first | go_values | go_skip | go_guarded | go_step | go_upon))
  refine (rolled_any w2 bs L sa sn sc a n c va vb ((HS.out.keeps HK2.out).mono (old_mono2 HK2.out)) HLN.out (by omega) hnc ((HRD.out.keeps HK2.out).mono (old_mono2 HK2.out)) ((HV.out.keeps HK2.out).mono (old_mono2 HK2.out)) HFR.out (by have := HS.out.1; omega)).mono ?_
  rintro e w3 ⟨a1, c1, a2, c2, R, S0, Ss, rfl, hrR, h0, hfb, hrun, hcont, hb3, hc1, hc2⟩
  have hk3 := below_keeps hb3
  have hrl := hrun.len
  have hop : (nseq ⟨[Fl.new S0.fb], false, S0.fb.length⟩ L).opn = false := by rw [hfb]; exact HOP.out
  have hst := runs_ok hrun h0 HFR.out hop
  obtain ⟨F, hF0, hFl, hFe⟩ := runs_same hrun h0 HFR.out hop
  rw [hfb] at hst hF0
  obtain ⟨fb, hfbe⟩ : ∃ fb, (Ss L.length).fb = fb := ⟨_, rfl⟩
  rw [hfbe] at hcont hc2 hFl hFe ⊢
  obtain ⟨lenC, hlC⟩ : ∃ lenC, fb.length = lenC := ⟨_, rfl⟩
  rw [hlC] at hcont hc2 hFl ⊢
  rw [HLN.out] at hc1 ⊢
  have hN3 : NIs (Old w1) w3 gn gs cap X (nseq (nsNew bs) L).opn (nseq (nsNew bs) L).most := HN.out.keeps hk3 fun k hk _ => hk
  obtain ⟨x, hx, hxF⟩ : ∃ x, X[0]? = some x ∧ x.F = F := by
    have h5 : (X.map FV.F)[0]? = some F := by rw [HX.out]; exact hF0
    rw [List.getElem?_map] at h5
    cases hq : X[0]? with
    | none => rw [hq] at h5; cases h5
    | some x => rw [hq] at h5; exact ⟨x, rfl, by simpa using h5⟩
  subst hxF
  have hv3 : FileVal (Old w1) w3 x.vd x.vk x.vw x.F := hN3.val 0 x hx
  obtain ⟨g, hgb, hgo, hf, -⟩ := hN3.file hx
  obtain ⟨y0, y1, y2, -⟩ := hf.cells
  rw [hgb, hgo] at y0 y1 y2
  obtain ⟨ad, cd, ed, -⟩ := hv3.rd.slice
  obtain ⟨ak, ck, ek, -⟩ := hv3.rk.slice
  obtain ⟨aw, cw, ew, -⟩ := hv3.rw.slice
  rw [ed] at y0
  rw [ek] at y1
  rw [ew] at y2
  rw [ed, ek, ew] at hv3
  simp only [Nat.zero_mul, Nat.zero_add] at y0 y1 y2
  obtain ⟨m, hm⟩ : ∃ m, X.length = m + 1 := ⟨X.length - 1, by have := (List.getElem?_eq_some_iff.1 hx).1; omega⟩
  have n0 := hN3.cell0.1
  have hcap := hN3.capn
  rw [hm] at n0 hcap
  have hkA : Keeps (Old w) w w3 := HK2.out.trans (hk3.mono (old_mono2 HK2.out))
  have RL := Lib.hid (rolledLaw_any w3 bs L R sa sn sc a n c a1 c1 ((HS.out.keeps hkA).mono (old_mono2 hkA)) hsc hsn HLN.out hn2 hnc hc1 ((HRD.out.keeps hkA).mono (old_mono2 hkA)) hrR (by rw [hrl]; exact HLN.out) hst HFR.out)
  have hfl : lenC ≤ 1000000 := by
    have h5 : x.F.d.length ≤ 262144 := HOK.out.2 x.F (by rw [← HX.out]; exact List.mem_map_of_mem (List.mem_of_getElem? hx))
    omega
  have hsm : ∀ (V : World), Keeps (Old w3) w3 V → Calls Tryz.prog 8 #[.agg #[.slice ad x.F.d.length cd, .slice ak x.F.d.length ck, .slice aw x.F.d.length cw], .slice a2 lenC c2] V fun e w' => e = .returned (.bool true) ∧ Below V.heap.size V w' := fun V hV =>
    same_true (Old w1) V _ _ _ x.F a2 lenC c2 fb (hv3.keepOwn (x := ⟨.slice ad x.F.d.length cd, .slice ak x.F.d.length ck, .slice aw x.F.d.length cw, x.F⟩) fun k hk => hV.block k (hv3.ownOf (x := ⟨.slice ad x.F.d.length cd, .slice ak x.F.d.length ck, .slice aw x.F.d.length cw, x.F⟩) hk).1) ((hcont.keeps hV).mono fun k hk => Nat.lt_of_lt_of_le hk hV.size) hFl hc2 (by omega) hFe
  have SM := Lib.hid hsm
  have MM := Lib.hid (fun (V : World) (hV : Keeps (Old w) w V) => memory_any V va vb ((HV.out.keeps hV).mono (old_mono2 hV)))
  have HKA := Lib.hid hkA
  have hgn3 := lt_of_heap hN3.nest
  have hgs3 : gs < w3.heap.size := (hN3.row.own (k := gs) rfl).1
  have hlX : x.F.d.length = lenC := hFl.symm
  rw [hlX] at SM y0 y1 y2
  clear hk3 hrl hop hst hF0 hFl hFe hN3 hx hv3 hgb hgo hf ed ek ew hm hkA hrun hcont hb3 hc1 hc2 hrR h0 hfb hlX hlC hfl hsm
  dsimp only
  (repeat (first | go_values | go_skip | go_guarded | go_step | go_upon))
  refine RL.out.mono ?_
  rintro e w4 ⟨rfl, hk4⟩
  have n0' := (hk4.cell (a := ⟨gn, 0, none⟩) hgn3).trans n0
  have y0' := (hk4.cell (a := ⟨gs, 0, none⟩) hgs3).trans y0
  have y1' := (hk4.cell (a := ⟨gs, 1, none⟩) hgs3).trans y1
  have y2' := (hk4.cell (a := ⟨gs, 2, none⟩) hgs3).trans y2
  have SM4 := Lib.hid (SM.out w4 hk4)
  have HKA4 := Lib.hid (HKA.out.trans (hk4.mono (old_mono2 HKA.out)))
  clear hk4 n0 y0 y1 y2 RL SM
  dsimp only
  (repeat (first | go_values | go_skip | go_guarded | go_step | go_upon))
  refine SM4.out.mono ?_
  rintro e w5 ⟨rfl, hb5⟩
  have HKA5 := Lib.hid (HKA4.out.trans ((below_keeps hb5).mono (old_mono2 HKA4.out)))
  clear hb5 SM4
  dsimp only
  (repeat (first | go_values | go_skip | go_guarded | go_step | go_upon))
  refine (MM.out w5 HKA5.out).mono ?_
  rintro e w6 ⟨rfl, hb6⟩
  have HB6 := Lib.hid ((HKA5.out.below (B := w.heap.size) fun _ h => h).trans (hb6.mono HKA5.out.size))
  clear hb6
  dsimp only
  (repeat (first | go_values | go_skip | go_guarded | go_step | go_upon))
  go_ret
  exact ⟨rfl, HB6.out⟩

end Go.Proofs.YtkkliejgmgmebaaGreatDoor
