/-
  FnInner: its second loop.
-/
import Derived.Test.YtkkliejgmgmebaaDoorL6
namespace Go.Proofs.YtkkliejgmgmebaaDoor
open Go.RowKit

noncomputable def body4b : Code := ((Tryd.f4.body.bind laterLoop).getD .skip)

structure frm4bp (s11 s13 s102 s103 s104 : Value) (a : Act) : Prop where
  df : a.defers = []
  sz : a.tmps.size = 152
  h11 : a.tmps.getD 11 undef = s11
  h13 : a.tmps.getD 13 undef = s13
  h102 : a.tmps.getD 102 undef = s102
  h103 : a.tmps.getD 103 undef = s103
  h104 : a.tmps.getD 104 undef = s104
set_option maxRecDepth 100000 in
theorem frm4b {s11 s13 s102 s103 s104 : Value} {a : Act} (h : frm4bp s11 s13 s102 s103 s104 a) : ∃ u : Nat → Value, a = ⟨#[u 0, u 1, u 2, u 3, u 4, u 5, u 6, u 7, u 8, u 9, u 10, s11, u 12, s13, u 14, u 15, u 16, u 17, u 18, u 19, u 20, u 21, u 22, u 23, u 24, u 25, u 26, u 27, u 28, u 29, u 30, u 31, u 32, u 33, u 34, u 35, u 36, u 37, u 38, u 39, u 40, u 41, u 42, u 43, u 44, u 45, u 46, u 47, u 48, u 49, u 50, u 51, u 52, u 53, u 54, u 55, u 56, u 57, u 58, u 59, u 60, u 61, u 62, u 63, u 64, u 65, u 66, u 67, u 68, u 69, u 70, u 71, u 72, u 73, u 74, u 75, u 76, u 77, u 78, u 79, u 80, u 81, u 82, u 83, u 84, u 85, u 86, u 87, u 88, u 89, u 90, u 91, u 92, u 93, u 94, u 95, u 96, u 97, u 98, u 99, u 100, u 101, s102, s103, s104, u 105, u 106, u 107, u 108, u 109, u 110, u 111, u 112, u 113, u 114, u 115, u 116, u 117, u 118, u 119, u 120, u 121, u 122, u 123, u 124, u 125, u 126, u 127, u 128, u 129, u 130, u 131, u 132, u 133, u 134, u 135, u 136, u 137, u 138, u 139, u 140, u 141, u 142, u 143, u 144, u 145, u 146, u 147, u 148, u 149, u 150, u 151], []⟩ := by
  obtain ⟨F, df⟩ := a
  obtain ⟨rfl, hs, rfl, rfl, rfl, rfl, rfl⟩ := h
  refine ⟨fun i => F.getD i undef, ?_⟩
  have e := open_frame F
  rw [hs] at e
  exact congrArg (Act.mk · []) e

set_option maxRecDepth 100000 in
set_option maxHeartbeats 8000000 in
/-- THE SECOND LOOP: every result is the reference's. -/
theorem loop4b (Q0 : Exit → Act → World → Prop) (Pr : Nat → Prop) (w : World) (gg : Nat) (vd vk vw : Value) (F : Fl) (L : List Op) (R : List RS) (a ar : Option Addr) (n c cr : Nat) (A : Act)
    (hin : Inw Pr w) (hL : L.length = n) (hn : n ≤ 1000000) (hnc : n ≤ c) (hncr : n ≤ cr) (hrd : rdO Pr w a L) (hres : ∀ w', Keeps Pr w w' → rdR w' ar R) (hR : Results F.d L R) (hF : FileIs Pr w gg vd vk vw F) (hbs : F.d.length ≤ 262144) (hfrom : fitsFrom F.d L)
    (hA : frm4bp (.slice ar n cr) (.pointer (some ⟨gg, 0, none⟩)) (.slice a n c) (.int .i64 (n : Int)) (.int .i64 ((0 : Nat) : Int)) A)
    (hexit : ∀ a' w', frm4bp (.slice ar n cr) (.pointer (some ⟨gg, 0, none⟩)) (.slice a n c) (.int .i64 (n : Int)) (.int .i64 (n : Int)) a' → Keeps Pr w w' → Q0 (.exit 2) a' w') :
    Code.wp Tryd.prog (Code.loop body4b) Q0 A w := by
  have hfit := hfrom.all
  have hd : ∀ o ∈ L, o.d.length = o.n := fun o ho => by
    rcases hrd with h0 | ⟨b, off, -, -, hc⟩
    · subst h0; cases ho
    · obtain ⟨i, hi⟩ := List.getElem?_of_mem ho
      exact (hc i o hi).rd.1
  refine wp_loop_ghost (fun k a' w' => ∃ (i : Nat) (vd vk vw : Value), k = n - i ∧ i ≤ n ∧ frm4bp (.slice ar n cr) (.pointer (some ⟨gg, 0, none⟩)) (.slice a n c) (.int .i64 (n : Int)) (.int .i64 (i : Int)) a' ∧ FileIs Pr w' gg vd vk vw (chgs F (L.take i)) ∧ Keeps Pr w w') n
    ⟨0, vd, vk, vw, rfl, Nat.zero_le _, hA, by rw [List.take_zero]; exact hF, Keeps.refl _ _⟩ ?_
  rintro k a' w' ⟨i, vd, vk, vw, rfl, hi, ha, hf, hk⟩
  obtain ⟨u, rfl⟩ := frm4b ha
  clear ha hA hF
  have HE := Lib.hid hexit
  have HF := Lib.hid hf
  have HK := Lib.hid hk
  conv => arg 2; whnf
  by_cases hlt : i < n
  · obtain ⟨o, ho⟩ : ∃ o, L[i]? = some o := ⟨_, List.getElem?_eq_getElem (by omega)⟩
    obtain ⟨x, hx⟩ : ∃ x, R[i]? = some x := ⟨_, List.getElem?_eq_getElem (by rw [hR.1]; omega)⟩
    rcases hrd with h0 | ⟨b, off, rfl, hb, hc⟩
    · subst h0; cases ho
    rcases hres w' hk with h0 | ⟨b2, off2, rfl, hb2, hc2⟩
    · subst h0; cases hx
    have hop := (hc i o ho).keeps hb hk
    have hre := hc2 i x hx
    have x0 := hop.c0
    have x1 := hop.c1
    have x2 := hop.c2
    have x3 := hop.c3
    have z0 := hre.c0
    have z1 := hre.c1
    have z2 := hre.c2
    have z3 := hre.c3
    have hfl := hfrom i o ho
    have hft : fitsAll (L.take i) := fun p hp => hfit p (List.mem_of_mem_take hp)
    have hdt : ∀ p ∈ L.take i, p.d.length = p.n := fun p hp => hd p (List.mem_of_mem_take hp)
    have hG := chgs_d (L.take i) F hft hdt
    have hlen : (chgs F (L.take i)).d.length ≤ 262144 := by
      rw [hG]
      have := memB_len (L.take i) F.d hft hdt
      omega
    have hok := hR.2 i x o hx ho
    rw [← hG] at hok hfl
    have hinw := hin.mono hk.size
    have hW := fun (o1 o2 : Obj) => (Keeps.alloc (Pr := Old w') (w := w') (fun _ h => h) o1).trans (Keeps.alloc (w := w'.alloc o1) (fun k (h : k < w'.heap.size) => by simp; omega) o2)
    have hchg := fun (w2 : World) (hw2 : Keeps (Old w') w' w2) (hb : fitsB (chgs F (L.take i)).d.length o.kind o.off o.size o.n = true) =>
      change_any Pr gg vd vk vw (chgs F (L.take i)) w2 o.kind o.off o.size o.a o.n o.c o.d (hinw.mono hw2.size) (hf.kept hw2 fun k hk _ => hk) (hop.rd.keeps (hw2.mono hinw)) hop.nc (by omega) hb
    have hreads := fun (o1 o2 : Obj) => reads_true Pr gg vd vk vw (chgs F (L.take i)) ((w'.alloc o1).alloc o2) x.a x.r.d.length x.c
    have hHF := fun (o1 o2 : Obj) => hf.kept (hW o1 o2) fun k hk _ => hk
    have hrdx := fun (o1 o2 : Obj) => (hre.rd.keeps (hW o1 o2)).mono fun k (h : k < w'.heap.size) => Nat.lt_of_lt_of_le h (hW o1 o2).size
    have hnc2 := hop.nc
    have hcb := hop.cb
    have hxc := hre.nc
    obtain ⟨d0, -⟩ := hf.cells
    obtain ⟨aD, cD, rfl, hcD, -⟩ := hf.v.rd.slice
    have hgg := lt_of_heap hf.cell
    have HOK := Lib.hid hok
    have HCH := Lib.hid hchg
    have HRE := Lib.hid hreads
    have HHF := Lib.hid hHF
    have HRX := Lib.hid hrdx
    have HW := Lib.hid hW
    have HTK := Lib.hid (take_snoc ho)
    have HLen := Lib.hid hlen
    have HFL := Lib.hid hfl
    have HIW := Lib.hid hinw
    have hdo := Lib.hid (hd o (List.mem_of_getElem? ho))
    have hGlen : ∃ G, (chgs F (L.take i)).d.length = G := ⟨_, rfl⟩
    clear hc hc2 hop hre hok hchg hreads hHF hrdx hW hlen hG hft hdt hfl hinw ho hx hd hR hres hf hk hexit hfit hfrom
    obtain ⟨kd, of, sz, oa, on, oc, od⟩ := o
    obtain ⟨⟨rn, rd, rsz, rerr⟩, xa, xc⟩ := x
    simp only at x0 x1 x2 x3 z0 z1 z2 z3 hnc2 hcb hxc
    obtain ⟨lenF, hlenF⟩ := hGlen
    rw [hlenF] at d0 hcD
    have HLF := Lib.hid hlenF
    clear hlenF
    by_cases h5 : 5 ≤ kd
    · (repeat (first | go_values | go_skip | go_guarded | go_step | go_upon))
      refine ⟨n - (i + 1), by omega, i + 1, .slice aD (chgs F (L.take i)).d.length cD, vk, vw, rfl, by omega, ⟨rfl, rfl, rfl, rfl, rfl, rfl, by go_num⟩, ?_, HK.out.trans ((HW.out _ _).mono HIW.out)⟩
      rw [HTK.out, chgs_snoc, chg_same _ _ (by dsimp only; omega) (by dsimp only; omega) (by dsimp only; omega)]
      exact HHF.out _ _
    have h5' : kd < 5 := by omega
    clear h5
    by_cases k1 : kd = 1
    · subst k1
      obtain ⟨g1, g2, g3, g4⟩ := fitsB_1 HFL.out
      simp only at g1 g2 g3 g4
      obtain ⟨of', rfl⟩ := Int.eq_ofNat_of_zero_le g1
      obtain ⟨sz', rfl⟩ := Int.eq_ofNat_of_zero_le (show 0 ≤ sz by omega)
      obtain ⟨e1, e2, e3⟩ := HOK.out.2.1 rfl
      simp only [Int.toNat_natCast] at e1
      simp only at e2
      subst e2
      have E1 := Lib.hid e1
      have E3 := Lib.hid e3
      clear e1 e3
      (repeat (first | go_values | go_skip | go_guarded | go_step | go_upon))
      refine (HRE.out _ _ of' sz' rsz 1 rerr oa on oc true rd (HHF.out _ _) (by have := HLen.out; omega) (by omega) (by omega) (by rw [← E1.out]) (HRX.out _ _) hxc (by have := E3.out; simp only at this; rw [this]; split <;> simp) (fun _ => by have := E3.out; simp only at this; rw [this]; split <;> simp <;> omega) (fun j _ => by rw [E1.out])).mono ?_
      rintro e w3 ⟨rfl, hb3⟩
      have hk3 := below_keeps hb3
      have hO3 : Keeps (Old w') w' w3 := (HW.out _ _).trans (hk3.mono fun k (h : k < w'.heap.size) => Nat.lt_of_lt_of_le h (HW.out _ _).size)
      have bb := (hk3.block (w'.heap.size) (by simp; omega)).trans (heap_alloc2_old w' _ _)
      obtain ⟨bc, -⟩ := cells_at bb
      have y0 := bc 0
      have y1 := bc 1
      have y2 := bc 2
      have y3 := bc 3
      simp only [List.getElem?_toArray, List.getElem?_cons_succ, List.getElem?_cons_zero] at y0 y1 y2 y3
      have C3 := Lib.hid (HCH.out w3 hO3 HFL.out)
      have HK3 := Lib.hid ((HK.out.trans ((HW.out _ _).mono HIW.out)).trans (hk3.mono fun k hp => Nat.lt_of_lt_of_le (HIW.out k hp) (HW.out _ _).size))
      clear hb3 hk3 hO3 bb bc HCH
      dsimp only
      (repeat (first | go_values | go_skip | go_guarded | go_step | go_upon))
      refine C3.out.mono ?_
      rintro e w4 ⟨rfl, vd3, vk3, vw3, hf4, hk4⟩
      have HF4 := Lib.hid hf4
      have HK4 := Lib.hid (HK3.out.trans hk4)
      clear hf4 hk4 C3
      dsimp only
      (repeat (first | go_values | go_skip | go_guarded | go_step | go_upon))
      refine ⟨n - (i + 1), by omega, i + 1, vd3, vk3, vw3, rfl, by omega, ⟨rfl, rfl, rfl, rfl, rfl, rfl, by go_num⟩, ?_, HK4.out⟩
      rw [HTK.out, chgs_snoc]
      exact HF4.out
    by_cases k0 : kd = 0
    · subst k0
      obtain ⟨e1, e2⟩ := HOK.out.1 rfl
      simp only at e1 e2
      subst e1 e2
      (repeat (first | go_values | go_skip | go_guarded | go_step | go_upon))
      refine (HCH.out _ (HW.out _ _) HFL.out).mono ?_
      rintro e w3 ⟨rfl, vd3, vk3, vw3, hf3, hk3⟩
      have HF3 := Lib.hid hf3
      have HK3 := Lib.hid ((HK.out.trans ((HW.out _ _).mono HIW.out)).trans hk3)
      clear hf3 hk3
      dsimp only
      (repeat (first | go_values | go_skip | go_guarded | go_step | go_upon))
      refine ⟨n - (i + 1), by omega, i + 1, vd3, vk3, vw3, rfl, by omega, ⟨rfl, rfl, rfl, rfl, rfl, rfl, by go_num⟩, ?_, HK3.out⟩
      rw [HTK.out, chgs_snoc]
      exact HF3.out
    by_cases k4 : kd = 4
    · subst k4
      obtain ⟨e1, e2⟩ := HOK.out.2.2.2.2 rfl
      rw [HLF.out] at e1
      simp only at e1 e2
      subst e1 e2
      (repeat (first | go_values | go_skip | go_guarded | go_step | go_upon))
      refine (HCH.out _ (HW.out _ _) HFL.out).mono ?_
      rintro e w3 ⟨rfl, vd3, vk3, vw3, hf3, hk3⟩
      have HF3 := Lib.hid hf3
      have HK3 := Lib.hid ((HK.out.trans ((HW.out _ _).mono HIW.out)).trans hk3)
      clear hf3 hk3
      dsimp only
      (repeat (first | go_values | go_skip | go_guarded | go_step | go_upon))
      refine ⟨n - (i + 1), by omega, i + 1, vd3, vk3, vw3, rfl, by omega, ⟨rfl, rfl, rfl, rfl, rfl, rfl, by go_num⟩, ?_, HK3.out⟩
      rw [HTK.out, chgs_snoc]
      exact HF3.out
    by_cases k2 : kd = 2
    · subst k2
      have e2 := HOK.out.2.2.1 rfl
      simp only at e2
      subst e2
      (repeat (first | go_values | go_skip | go_guarded | go_step | go_upon))
      refine (HCH.out _ (HW.out _ _) HFL.out).mono ?_
      rintro e w3 ⟨rfl, vd3, vk3, vw3, hf3, hk3⟩
      have HF3 := Lib.hid hf3
      have HK3 := Lib.hid ((HK.out.trans ((HW.out _ _).mono HIW.out)).trans hk3)
      clear hf3 hk3
      dsimp only
      (repeat (first | go_values | go_skip | go_guarded | go_step | go_upon))
      refine ⟨n - (i + 1), by omega, i + 1, vd3, vk3, vw3, rfl, by omega, ⟨rfl, rfl, rfl, rfl, rfl, rfl, by go_num⟩, ?_, HK3.out⟩
      rw [HTK.out, chgs_snoc]
      exact HF3.out
    by_cases k3 : kd = 3
    · subst k3
      have e2 := HOK.out.2.2.2.1 rfl
      simp only at e2
      subst e2
      (repeat (first | go_values | go_skip | go_guarded | go_step | go_upon))
      refine (HCH.out _ (HW.out _ _) HFL.out).mono ?_
      rintro e w3 ⟨rfl, vd3, vk3, vw3, hf3, hk3⟩
      have HF3 := Lib.hid hf3
      have HK3 := Lib.hid ((HK.out.trans ((HW.out _ _).mono HIW.out)).trans hk3)
      clear hf3 hk3
      dsimp only
      (repeat (first | go_values | go_skip | go_guarded | go_step | go_upon))
      refine ⟨n - (i + 1), by omega, i + 1, vd3, vk3, vw3, rfl, by omega, ⟨rfl, rfl, rfl, rfl, rfl, rfl, by go_num⟩, ?_, HK3.out⟩
      rw [HTK.out, chgs_snoc]
      exact HF3.out
    exfalso
    have := fitsB_x HFL.out k0 k1 k2 k3
    simp only at this
    omega
  · obtain rfl : i = n := by omega
    clear hrd hd hf hk hexit hres hR hfit hfrom
    (repeat (first | go_values | go_skip | go_guarded | go_step | go_upon))
    exact HE.out _ _ ⟨rfl, rfl, rfl, rfl, rfl, rfl, rfl⟩ HK.out

end Go.Proofs.YtkkliejgmgmebaaDoor
