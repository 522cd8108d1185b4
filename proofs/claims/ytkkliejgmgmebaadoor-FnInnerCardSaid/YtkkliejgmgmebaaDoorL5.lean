/-
  laws.FnMemFile.
-/
import Derived.Test.YtkkliejgmgmebaaDoorL4
namespace Go.Proofs.YtkkliejgmgmebaaDoor
open Go.RowKit

theorem old_mono {w w' : World} (h : Keeps (Old w) w w') : ∀ k, Old w k → Old w' k := fun _ hk => Nat.lt_of_lt_of_le hk h.size

set_option maxRecDepth 100000 in
set_option maxHeartbeats 8000000 in
theorem memFile_law (w : World) (bs : List UInt8) (L : List Op) (sa : Option Addr) (sn sc : Nat) (a : Option Addr) (n c : Nat) (va vb : Addr)
    (hs : Rd (Old w) w sa sn bs) (hsc : sn ≤ sc) (hL : L.length = n) (hnc : n ≤ c) (hcb : c ≤ 9223372036854775807) (hrd : rdO (Old w) w a L) (hV : Vars (Old w) w va vb) :
    Calls Tryd.prog 3 #[.slice sa sn sc, .slice a n c] w fun e w' => e = .returned (.bool true) ∧ Below w.heap.size w w' := by
  have HS := Lib.hid hs
  have HRD := Lib.hid hrd
  have HV := Lib.hid hV
  have HLN := Lib.hid hL
  clear hs hrd hV hL
  by_cases h1 : 2147483647 < sn
  · go_enter Tryd.func3, Tryd.ntmps3
    (repeat (first | go_values | go_skip | go_guarded | go_step | go_upon))
    go_ret
    exact ⟨rfl, Below.refl _ _⟩
  have h1' : sn ≤ 2147483647 := by omega
  clear h1
  go_enter Tryd.func3, Tryd.ntmps3
  (repeat (first | go_values | go_skip | go_guarded | go_step | go_upon))
  refine (zzFits3_any w a n c L HLN.out (by omega) hnc HRD.out).mono ?_
  rintro e w1 ⟨⟨b1, rfl⟩, hk1⟩
  have HK1 := Lib.hid hk1
  have H1 := Lib.hid (old_mono hk1)
  clear hk1
  dsimp only
  cases b1
  · (repeat (first | go_values | go_skip | go_guarded | go_step | go_upon))
    go_ret
    exact ⟨rfl, HK1.out.below fun _ h => h⟩
  by_cases h2 : 200 < n
  · (repeat (first | go_values | go_skip | go_guarded | go_step | go_upon))
    go_ret
    exact ⟨rfl, HK1.out.below fun _ h => h⟩
  have h2' : n ≤ 200 := by omega
  clear h2
  by_cases h3 : 131072 < sn
  · (repeat (first | go_values | go_skip | go_guarded | go_step | go_upon))
    go_ret
    exact ⟨rfl, HK1.out.below fun _ h => h⟩
  have h3' : sn ≤ 131072 := by omega
  clear h3
  (repeat (first | go_values | go_skip | go_guarded | go_step | go_upon))
  refine (newFile_any (Old w1) w1 sn sc sa bs (fun _ h => h) ((HS.out.keeps HK1.out).mono H1.out) hsc (by omega)).mono ?_
  rintro e w2 ⟨vd, vk, vw, rfl, hfv, hk2⟩
  obtain ⟨a1, c1, rfl, -⟩ := hfv.rd.slice
  obtain ⟨a2, c2, rfl, -⟩ := hfv.rk.slice
  obtain ⟨a3, c3, rfl, -⟩ := hfv.rw.slice
  have HFV := Lib.hid hfv
  have HK2 := Lib.hid hk2
  clear hfv hk2
  dsimp only
  (repeat (first | go_values | go_skip | go_guarded | go_step | go_upon))
  have hF0 : FileIs (Old w1) (w2.alloc (.cells #[.slice a1 (Fl.new bs).d.length c1, .slice a2 (Fl.new bs).d.length c2, .slice a3 (Fl.new bs).d.length c3] 27)) w2.heap.size _ _ _ (Fl.new bs) :=
    ⟨heap_alloc_new _ _, fun h => by have h' : w2.heap.size < w1.heap.size := h; have := HK2.out.size; omega, HFV.out.alloc _⟩
  have hk2' : Keeps (Old w1) w1 (w2.alloc (.cells #[.slice a1 (Fl.new bs).d.length c1, .slice a2 (Fl.new bs).d.length c2, .slice a3 (Fl.new bs).d.length c3] 27)) := HK2.out.trans (Keeps.alloc (old_mono HK2.out) _)
  generalize w2.alloc (.cells #[.slice a1 (Fl.new bs).d.length c1, .slice a2 (Fl.new bs).d.length c2, .slice a3 (Fl.new bs).d.length c3] 27) = W2 at *
  have HF0 := Lib.hid hF0
  have HK2' := Lib.hid hk2'
  have hrd1 := (HRD.out.keeps HK1.out).mono H1.out
  have LC := Lib.hid (lcalls_any (Old w1) W2 a n c L (old_mono hk2') HLN.out (by omega) hnc (hrd1.keeps hk2'))
  clear hF0 hk2' hrd1 HFV HK2
  refine LC.out.mono ?_
  rintro e w3 ⟨ao, co, rfl, hco, hro, hk3⟩
  have hin3 : Inw (Since (Old w1) W2 w3) w3 := fun k hk => hk.elim (fun h => Nat.lt_of_lt_of_le h (Nat.le_trans HK2'.out.size hk3.size)) fun h => h.2
  have hF3 : FileIs (Since (Old w1) W2 w3) w3 w2.heap.size _ _ _ (Fl.new bs) := (HF0.out.widen (Pr' := Since (Old w1) W2 w3) fun k hk hn hor => hor.elim hn fun h => by omega).kept hk3 fun k hk _ => hk
  have L3 := Lib.hid (fun Q0 A hA ho hx => loop3a Q0 (Since (Old w1) W2 w3) w3 w2.heap.size _ _ _ (.slice sa sn sc) (.slice a n c) (Fl.new bs) L ao n co A hin3 HLN.out (by omega) hco hro hF3 (by show bs.length ≤ 262144; have := HS.out.1; omega) hA ho hx)
  have HRO := Lib.hid hro
  have HK3 := Lib.hid (HK2'.out.trans (hk3.mono (old_mono HK2'.out)))
  have HIN3 := Lib.hid hin3
  clear hro hk3 hin3 hF3 LC
  dsimp only
  (repeat (first | go_values | go_skip | go_guarded | go_step | go_upon))
  refine L3.out _ _ ⟨rfl, rfl, rfl, rfl, rfl, rfl, rfl, rfl, rfl⟩ ?_ ?_
  · intro a' w4 hd4 hs4 hk4
    obtain ⟨F4, df4⟩ := a'
    obtain rfl : df4 = [] := hd4
    have HB4 := Lib.hid ((HK1.out.trans ((HK3.out.trans (hk4.mono fun k h => .inl h)).mono H1.out)).below (B := w.heap.size) fun _ h => h)
    have hs4' : F4.getD 4 undef = .bool true := hs4
    clear hk4 hs4
    go_ret
    exact ⟨by rw [← hs4'], HB4.out⟩
  intro a' w4 vd4 vk4 vw4 ha4 hff hF4 hk4
  obtain ⟨u, rfl⟩ := frm3a ha4
  have hkA : Keeps (Old w) w w4 := HK1.out.trans ((HK3.out.trans (hk4.mono fun k h => .inl h)).mono H1.out)
  have hsz4 : w3.heap.size ≤ w4.heap.size := hk4.size
  have hd := chgs_d L (Fl.new bs) hff.all (fun o ho => by
    rcases HRD.out with h0 | ⟨b, off, -, -, hc⟩
    · subst h0; cases ho
    · obtain ⟨i, hi⟩ := List.getElem?_of_mem ho
      exact (hc i o hi).rd.1)
  have hlenM := memB_len L (Fl.new bs).d hff.all (fun o ho => by
    rcases HRD.out with h0 | ⟨b, off, -, -, hc⟩
    · subst h0; cases ho
    · obtain ⟨i, hi⟩ := List.getElem?_of_mem ho
      exact (hc i o hi).rd.1)
  have hlenB : bs.length ≤ 131072 := by have := HS.out.1; omega
  have MF := Lib.hid (memFile_any w4 bs L sa sn sc a n c va vb ((HS.out.keeps hkA).mono (old_mono hkA)) HLN.out (by omega) hnc ((HRD.out.keeps hkA).mono (old_mono hkA)) ((HV.out.keeps hkA).mono (old_mono hkA)) hff.all (by omega))
  have HKA := Lib.hid hkA
  have HF4 := Lib.hid hF4
  have HFF := Lib.hid hff
  have HRO4 := Lib.hid (HRO.out.keeps hk4)
  have HIN4 := Lib.hid (HIN3.out.mono hk4.size)
  have HD := Lib.hid hd
  have HLM := Lib.hid hlenM
  clear ha4 hkA hF4 hff hk4 hd hlenM L3 HRO HIN3 HF0
  simp only [Exit.inBlock, ↓reduceIte]
  (repeat (first | go_values | go_skip | go_guarded | go_step | go_upon))
  refine MF.out.mono ?_
  rintro e w5 hp
  obtain ⟨ar, cr, ac, cc, R, rfl, hrR, hres, hcont, hb5, hcr, hcc⟩ := hp
  obtain ⟨mlen, hml⟩ : ∃ m, (memB bs L).length = m := ⟨_, rfl⟩
  rw [hml] at hcont hcc ⊢
  rw [HLN.out] at hcr ⊢
  have hk5 := below_keeps hb5
  have hF5 := HF4.out.kept hk5 fun k hk _ => hk
  obtain ⟨f0, f1, f2, -⟩ := hF5.cells
  have hdm : (chgs (Fl.new bs) L).d.length = mlen := by rw [HD.out]; exact hml
  have hml2 : mlen ≤ 262144 := by
    have h1 : (memB bs L).length ≤ max bs.length 262144 := HLM.out
    omega
  have SM := Lib.hid (same_true _ w5 vd4 vk4 vw4 (chgs (Fl.new bs) L) ac mlen cc (memB bs L) hF5.v hcont hdm.symm hcc (by omega) (fun j _ => by rw [HD.out]; rfl))
  have HKA5 := Lib.hid (HKA.out.trans (hk5.mono (old_mono HKA.out)))
  have HRO5 := Lib.hid (HRO4.out.keeps (hk5.mono HIN4.out))
  have HIN5 := Lib.hid (HIN4.out.mono hk5.size)
  have HRR := Lib.hid hrR
  have HRES := Lib.hid hres
  have HML := Lib.hid hml
  clear hrR hres hcont hb5 hk5 hF5 hdm hml MF HF4 HRO4 HIN4 HKA
  dsimp only
  (repeat (first | go_values | go_skip | go_guarded | go_step | go_upon))
  refine SM.out.mono ?_
  rintro e w6 ⟨rfl, hb6⟩
  have hk6 := below_keeps hb6
  have hKA6 := HKA5.out.trans (hk6.mono (old_mono HKA5.out))
  have NF := Lib.hid (newFile_any (Old w6) w6 sn sc sa bs (fun _ h => h) ((HS.out.keeps hKA6).mono (old_mono hKA6)) hsc (by omega))
  have HRO6 := Lib.hid (((HRO5.out.keeps (hk6.mono HIN5.out)).mono fun k hk => Nat.lt_of_lt_of_le (HIN5.out k hk) hk6.size))
  have HRR6 := Lib.hid (HRR.out.keeps hk6)
  have HKA6 := Lib.hid hKA6
  clear hb6 hk6 hKA6 SM HRO5 HRR HIN5 HKA5
  dsimp only
  (repeat (first | go_values | go_skip | go_guarded | go_step | go_upon))
  refine NF.out.mono ?_
  rintro e w7 ⟨vd7, vk7, vw7, rfl, hfv7, hk7⟩
  obtain ⟨d1, e1, rfl, -⟩ := hfv7.rd.slice
  obtain ⟨d2, e2, rfl, -⟩ := hfv7.rk.slice
  obtain ⟨d3, e3, rfl, -⟩ := hfv7.rw.slice
  have HFV7 := Lib.hid hfv7
  have HK7 := Lib.hid hk7
  clear hfv7 hk7 NF
  dsimp only
  (repeat (first | go_values | go_skip | go_guarded | go_step | go_upon))
  have hF8 : FileIs (Old w6) (w7.alloc (.cells #[.slice d1 (Fl.new bs).d.length e1, .slice d2 (Fl.new bs).d.length e2, .slice d3 (Fl.new bs).d.length e3] 27)) w7.heap.size _ _ _ (Fl.new bs) :=
    ⟨heap_alloc_new _ _, fun h => by have h' : w7.heap.size < w6.heap.size := h; have := HK7.out.size; omega, HFV7.out.alloc _⟩
  have hk8 : Keeps (Old w6) w6 (w7.alloc (.cells #[.slice d1 (Fl.new bs).d.length e1, .slice d2 (Fl.new bs).d.length e2, .slice d3 (Fl.new bs).d.length e3] 27)) := HK7.out.trans (Keeps.alloc (old_mono HK7.out) _)
  generalize w7.alloc (.cells #[.slice d1 (Fl.new bs).d.length e1, .slice d2 (Fl.new bs).d.length e2, .slice d3 (Fl.new bs).d.length e3] 27) = W8 at *
  refine loop3b _ (Old w6) W8 w7.heap.size _ _ _ (Fl.new bs) L R ao ar n co cr _ (old_mono hk8) HLN.out (by omega) hco hcr (HRO6.out.keeps hk8) (fun w' hk' => HRR6.out.keeps (hk8.trans hk')) HRES.out hF8 (by show bs.length ≤ 262144; omega) HFF.out ⟨rfl, rfl, rfl, rfl, rfl, rfl, rfl⟩ ?_
  intro a9 w9 ha9 hk9
  obtain ⟨u9, rfl⟩ := frm3b ha9
  have hKA9 := HKA6.out.trans ((hk8.trans hk9).mono (old_mono HKA6.out))
  have MM := Lib.hid (memory_any w9 va vb ((HV.out.keeps hKA9).mono (old_mono hKA9)))
  have HB9 := Lib.hid (hKA9.below (B := w.heap.size) fun _ h => h)
  clear ha9 hk9 hKA9 hk8 hF8
  simp only [Exit.inBlock, ↓reduceIte]
  (repeat (first | go_values | go_skip | go_guarded | go_step | go_upon))
  refine MM.out.mono ?_
  rintro e w10 ⟨rfl, hb10⟩
  have HB10 := Lib.hid (HB9.out.trans (hb10.mono HB9.out.size))
  clear hb10 MM
  dsimp only
  (repeat (first | go_values | go_skip | go_guarded | go_step | go_upon))
  go_ret
  exact ⟨rfl, HB10.out⟩

end Go.Proofs.YtkkliejgmgmebaaDoor
