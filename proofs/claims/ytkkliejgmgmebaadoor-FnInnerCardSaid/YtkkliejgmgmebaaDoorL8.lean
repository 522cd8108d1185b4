/-
  laws.FnInner.
-/
import Derived.Test.YtkkliejgmgmebaaDoorL5
import Derived.Test.YtkkliejgmgmebaaDoorL7
import Derived.Test.YtkkliejgmgmebaaDoorN5
import Derived.Laws.BytesString
import Derived.Deep.RegionHeld3
namespace Go.Proofs.YtkkliejgmgmebaaDoor
open Go.RowKit

/-- the bytes from a place on -/
theorem Rd.from {Pr : Nat → Prop} {w : World} {a : Option Addr} {n c k : Nat} {bs : List UInt8} (h : Rd Pr w a n bs) (hc : n ≤ c) (hk : k ≤ n) : Rd Pr w (if c = k then a else Option.map (fun x => x.add k) a) (n - k) (bs.drop k) := by
  refine ⟨by rw [List.length_drop, h.1], ?_⟩
  by_cases e : k = n
  · exact .inl (List.drop_eq_nil_of_le (by have := h.1; omega))
  · rw [if_neg (by omega)]
    rcases h.2 with rfl | ⟨b, o, rfl, hp, hcell⟩
    · exact .inl (by simp)
    · refine .inr ⟨b, o + k, by rw [Option.map_some, Addr.add_lit], hp, fun i x hx => ?_⟩
      rw [List.getElem?_drop] at hx
      rw [Nat.add_assoc]
      exact hcell _ _ hx

/-- the bytes up to a place -/
theorem Rd.upto {Pr : Nat → Prop} {w : World} {a : Option Addr} {n k : Nat} {bs : List UInt8} (h : Rd Pr w a n bs) (hk : k ≤ n) : Rd Pr w a k (bs.take k) := by
  refine ⟨by rw [List.length_take, h.1]; omega, ?_⟩
  rcases h.2 with rfl | ⟨b, o, rfl, hp, hcell⟩
  · exact .inl (by simp)
  · refine .inr ⟨b, o, rfl, hp, fun i x hx => ?_⟩
    rw [List.getElem?_take] at hx
    split at hx
    · exact hcell _ _ hx
    · cases hx

theorem run_bytes_string {P : Program} {Pr : Nat → Prop} {w : World} {a : Option Addr} {n c : Nat} {xs : List UInt8} (h : Rd Pr w a n xs) (src dst e : TypeId)
    (hs : P.underlying src = some (.slice e)) (he : P.underlying e = some (.int .u8)) (hd : P.underlying dst = some .string) :
    (convert src dst (.slice a n c)).run P w = .ok (.string ⟨xs.toArray⟩) w := by
  rw [run_convert_bytes_string w src dst e a n c hs he hd]
  obtain ⟨rfl, h2⟩ := h
  have hf : ∀ (l : List UInt8) (acc : ByteArray), (l.map fun x => (x.toNat : Int)).foldl (fun r n => r.push (UInt8.ofNat n.toNat)) acc = ⟨acc.data ++ l.toArray⟩ := by
    intro l
    induction l with
    | nil => intro acc; simp
    | cons x l ih =>
      intro acc
      simp only [List.map_cons, List.foldl_cons]
      rw [ih]
      simp [ByteArray.push]
  have hn : ∀ a : Addr, (∀ (i : Nat) (x : UInt8), xs[i]? = some x → w.cell? (a.add i) = some (.int .u8 (x.toNat : Int))) → (Conv.bytesToString (.slice (some a) xs.length c)).run P w = .ok (.string ⟨xs.toArray⟩) w := fun a hc => by
    have h1 := run_bytesToString (P := P) w a xs.length c (xs.map fun x => (x.toNat : Int)) (by
      have h2 := run_loadCells_list (P := P) (w := w) a ((xs.map fun x => (x.toNat : Int)).map (Value.int .u8)) (fun j v hv => by
        rw [List.getElem?_map, List.getElem?_map] at hv
        cases hx : xs[j]? with
        | none => rw [hx] at hv; cases hv
        | some x => rw [hx] at hv; simp at hv; subst hv; exact hc j x hx)
      simpa using h2)
    rw [h1, hf, show ByteArray.empty.data = (#[] : Array UInt8) from rfl, Array.empty_append]
  rcases h2 with rfl | ⟨b, off, rfl, -, hc⟩
  · cases a with
    | none => rfl
    | some a => exact hn a (fun i x hx => by simp at hx)
  · exact hn _ (fun i x hx => by rw [Addr.add_lit]; exact hc i x hx)

set_option maxRecDepth 100000 in
set_option maxHeartbeats 8000000 in
theorem inner_law (w : World) (bs : List UInt8) (L : List Op) (sa : Option Addr) (sn sc : Nat) (off : Int) (a : Option Addr) (n c : Nat) (va vb : Addr)
    (hs : Rd (Old w) w sa sn bs) (hsc : sn ≤ sc) (hL : L.length = n) (hnc : n ≤ c) (hcb : c ≤ 9223372036854775807) (hrd : rdO (Old w) w a L) (hV : Vars (Old w) w va vb) :
    Calls Tryd.prog 4 #[.slice sa sn sc, .int .i64 off, .slice a n c] w fun e w' => e = .returned (.bool true) ∧ Below w.heap.size w w' := by
  have HS := Lib.hid hs
  have HRD := Lib.hid hrd
  have HV := Lib.hid hV
  have HLN := Lib.hid hL
  clear hs hrd hV hL
  by_cases h1 : 2147483647 < sn
  · go_enter Tryd.func4, Tryd.ntmps4
    (repeat (first | go_values | go_skip | go_guarded | go_step | go_upon))
    go_ret
    exact ⟨rfl, Below.refl _ _⟩
  have h1' : sn ≤ 2147483647 := by omega
  clear h1
  go_enter Tryd.func4, Tryd.ntmps4
  (repeat (first | go_values | go_skip | go_guarded | go_step | go_upon))
  refine (zzFits3_any w a n c L HLN.out (by omega) hnc HRD.out).mono ?_
  rintro e w1 ⟨⟨b1, rfl⟩, hk1⟩
  have HK1 := Lib.hid hk1
  have H1 := Lib.hid (old_mono hk1)
  clear hk1
  dsimp only
  cases b1
  · (repeat (first | go_values | go_skip | go_guarded | go_step | go_upon))
    go_ret
    exact ⟨rfl, HK1.out.below fun _ h => h⟩
  by_cases h2 : 200 < n
  · (repeat (first | go_values | go_skip | go_guarded | go_step | go_upon))
    go_ret
    exact ⟨rfl, HK1.out.below fun _ h => h⟩
  have h2' : n ≤ 200 := by omega
  clear h2
  by_cases h3 : 65536 < sn
  · (repeat (first | go_values | go_skip | go_guarded | go_step | go_upon))
    go_ret
    exact ⟨rfl, HK1.out.below fun _ h => h⟩
  have h3' : sn ≤ 65536 := by omega
  clear h3
  by_cases h4 : off < 0
  · (repeat (first | go_values | go_skip | go_guarded | go_step | go_upon))
    go_ret
    exact ⟨rfl, HK1.out.below fun _ h => h⟩
  obtain ⟨k, rfl⟩ := Int.eq_ofNat_of_zero_le (show 0 ≤ off by omega)
  clear h4
  have hk0 : (0 : Int) ≤ k := by omega
  by_cases h5 : (sn : Int) < k
  · (repeat (first | go_values | go_skip | go_guarded | go_step | go_upon))
    go_ret
    exact ⟨rfl, HK1.out.below fun _ h => h⟩
  have h5' : (k : Int) ≤ sn := by omega
  have h6' : (k : Int) ≤ sc := by omega
  have hks : k ≤ sn := by omega
  clear h5
  obtain ⟨ps, ts, rfl, hpl⟩ : ∃ ps ts, bs = ps ++ ts ∧ ps.length = k := ⟨bs.take k, bs.drop k, (List.take_append_drop k bs).symm, by rw [List.length_take, HS.out.1]; omega⟩
  have hsf := HS.out.from hsc hks
  rw [List.drop_left' hpl] at hsf
  have HSF := Lib.hid hsf
  have HPL := Lib.hid hpl
  have HTL := Lib.hid hsf.1
  clear hsf hpl
  (repeat (first | go_values | go_skip | go_guarded | go_step | go_upon))
  refine (newFile_any (Old w1) w1 (sn - k) (sc - k) _ ts (fun _ h => h) ((HSF.out.keeps HK1.out).mono H1.out) (by omega) (by omega)).mono ?_
  rintro e w2 ⟨vd, vk, vw, rfl, hfv, hk2⟩
  obtain ⟨a1, c1, rfl, -⟩ := hfv.rd.slice
  obtain ⟨a2, c2, rfl, -⟩ := hfv.rk.slice
  obtain ⟨a3, c3, rfl, -⟩ := hfv.rw.slice
  have HFV := Lib.hid hfv
  have HK2 := Lib.hid hk2
  clear hfv hk2
  dsimp only
  (repeat (first | go_values | go_skip | go_guarded | go_step | go_upon))
  have hF0 : FileIs (Old w1) (w2.alloc (.cells #[.slice a1 (Fl.new ts).d.length c1, .slice a2 (Fl.new ts).d.length c2, .slice a3 (Fl.new ts).d.length c3] 27)) w2.heap.size _ _ _ (Fl.new ts) :=
    ⟨heap_alloc_new _ _, fun h => by have h' : w2.heap.size < w1.heap.size := h; have := HK2.out.size; omega, HFV.out.alloc _⟩
  have hk2' : Keeps (Old w1) w1 (w2.alloc (.cells #[.slice a1 (Fl.new ts).d.length c1, .slice a2 (Fl.new ts).d.length c2, .slice a3 (Fl.new ts).d.length c3] 27)) := HK2.out.trans (Keeps.alloc (old_mono HK2.out) _)
  generalize w2.alloc (.cells #[.slice a1 (Fl.new ts).d.length c1, .slice a2 (Fl.new ts).d.length c2, .slice a3 (Fl.new ts).d.length c3] 27) = W2 at *
  have HF0 := Lib.hid hF0
  have HK2' := Lib.hid hk2'
  have hrd1 := (HRD.out.keeps HK1.out).mono H1.out
  have LC := Lib.hid (lcalls_any (Old w1) W2 a n c L (old_mono hk2') HLN.out (by omega) hnc (hrd1.keeps hk2'))
  clear hF0 hk2' hrd1 HFV HK2
  refine LC.out.mono ?_
  rintro e w3 ⟨ao, co, rfl, hco, hro, hk3⟩
  have hin3 : Inw (Since (Old w1) W2 w3) w3 := fun k hk => hk.elim (fun h => Nat.lt_of_lt_of_le h (Nat.le_trans HK2'.out.size hk3.size)) fun h => h.2
  have hF3 : FileIs (Since (Old w1) W2 w3) w3 w2.heap.size _ _ _ (Fl.new ts) := (HF0.out.widen (Pr' := Since (Old w1) W2 w3) fun k hk hn hor => hor.elim hn fun h => by omega).kept hk3 fun k hk _ => hk
  have L3 := Lib.hid (fun Q0 A hA ho hx => loop4a Q0 (Since (Old w1) W2 w3) w3 w2.heap.size _ _ _ (.slice sa sn sc) (.int .i64 (k : Int)) (.slice a n c) (Fl.new ts) L ao n co A hin3 HLN.out (by omega) hco hro hF3 (by show ts.length ≤ 262144; have := HTL.out; omega) hA ho hx)
  have HRO := Lib.hid hro
  have HK3 := Lib.hid (HK2'.out.trans (hk3.mono (old_mono HK2'.out)))
  have HIN3 := Lib.hid hin3
  clear hro hk3 hin3 hF3 LC
  dsimp only
  (repeat (first | go_values | go_skip | go_guarded | go_step | go_upon))
  refine L3.out _ _ ⟨rfl, rfl, rfl, rfl, rfl, rfl, rfl, rfl, rfl, rfl⟩ ?_ ?_
  · intro a' w4 hd4 hs4 hk4
    obtain ⟨F4, df4⟩ := a'
    obtain rfl : df4 = [] := hd4
    have HB4 := Lib.hid ((HK1.out.trans ((HK3.out.trans (hk4.mono fun k h => .inl h)).mono H1.out)).below (B := w.heap.size) fun _ h => h)
    have hs4' : F4.getD 6 undef = .bool true := hs4
    clear hk4 hs4
    go_ret
    exact ⟨by rw [← hs4'], HB4.out⟩
  intro a' w4 vd4 vk4 vw4 ha4 hff hF4 hk4
  obtain ⟨u, rfl⟩ := frm4a ha4
  have hkA : Keeps (Old w) w w4 := HK1.out.trans ((HK3.out.trans (hk4.mono fun k h => .inl h)).mono H1.out)
  have hsz4 : w3.heap.size ≤ w4.heap.size := hk4.size
  have hd := chgs_d L (Fl.new ts) hff.all (fun o ho => by
    rcases HRD.out with h0 | ⟨b, off, -, -, hc⟩
    · subst h0; cases ho
    · obtain ⟨i, hi⟩ := List.getElem?_of_mem ho
      exact (hc i o hi).rd.1)
  have hlenM := memB_len L (Fl.new ts).d hff.all (fun o ho => by
    rcases HRD.out with h0 | ⟨b, off, -, -, hc⟩
    · subst h0; cases ho
    · obtain ⟨i, hi⟩ := List.getElem?_of_mem ho
      exact (hc i o hi).rd.1)
  have hlenB : ts.length ≤ 65536 := by have := HTL.out; omega
  have MF := Lib.hid (inner_any w4 ps ts k L sa sn sc a n c va vb HPL.out (by omega) ((HS.out.keeps hkA).mono (old_mono hkA)) HLN.out (by omega) hnc ((HRD.out.keeps hkA).mono (old_mono hkA)) ((HV.out.keeps hkA).mono (old_mono hkA)) hff.all (by omega))
  have HKA := Lib.hid hkA
  have HF4 := Lib.hid hF4
  have HFF := Lib.hid hff
  have HRO4 := Lib.hid (HRO.out.keeps hk4)
  have HIN4 := Lib.hid (HIN3.out.mono hk4.size)
  have HD := Lib.hid hd
  have HLM := Lib.hid hlenM
  clear ha4 hkA hF4 hff hk4 hd hlenM L3 HRO HIN3 HF0
  simp only [Exit.inBlock, ↓reduceIte]
  (repeat (first | go_values | go_skip | go_guarded | go_step | go_upon))
  refine MF.out.mono ?_
  rintro e w5 hp
  obtain ⟨ar, cr, ac, cc, R, rfl, hrR, hres, hcont, hb5, hcr, hcc⟩ := hp
  obtain ⟨mlen, hml⟩ : ∃ m, (memB ts L).length = m := ⟨_, rfl⟩
  rw [hml] at hcont hcc ⊢
  rw [HLN.out] at hcr ⊢
  have hk5 := below_keeps hb5
  have hF5 := HF4.out.kept hk5 fun k hk _ => hk
  obtain ⟨f0, f1, f2, -⟩ := hF5.cells
  have hdm : (chgs (Fl.new ts) L).d.length = mlen := by rw [HD.out]; exact hml
  have hml2 : mlen ≤ 262144 := by
    have h1 : (memB ts L).length ≤ max ts.length 262144 := HLM.out
    omega
  obtain ⟨cl, hcl⟩ : ∃ cl, k + mlen = cl := ⟨_, rfl⟩
  rw [hcl] at hcont hcc
  have hcf : Rd (Old w5) w5 (if cc = k then ac else Option.map (fun x => x.add k) ac) (cl - k) (memB ts L) := by
    have h1 := hcont.from hcc (show k ≤ cl by omega)
    rwa [List.drop_left' HPL.out] at h1
  have hKA5 := HKA.out.trans (hk5.mono (old_mono HKA.out))
  have hcv : ∀ W, Keeps (Old w5) w5 W → (convert 22 9 (.slice ac k cc)).run Tryd.prog W = .ok (.string ⟨ps.toArray⟩) W ∧ (convert 22 9 (.slice sa k sc)).run Tryd.prog W = .ok (.string ⟨ps.toArray⟩) W := fun W hW => by
    have h1 := (hcont.upto (show k ≤ cl by omega)).keeps hW
    have h2 := ((HS.out.keeps (hKA5.trans (hW.mono (old_mono hKA5)))).upto hks)
    rw [List.take_left' HPL.out] at h1 h2
    exact ⟨run_bytes_string h1 _ _ _ Tryd.underlying22 Tryd.underlying5 Tryd.underlying9, run_bytes_string h2 _ _ _ Tryd.underlying22 Tryd.underlying5 Tryd.underlying9⟩
  have SM := Lib.hid (fun (W : World) (hW : Keeps (Old w5) w5 W) => same_true (Since (Old w1) W2 w3) W vd4 vk4 vw4 (chgs (Fl.new ts) L) _ (cl - k) (cc - k) (memB ts L) (hF5.kept hW fun k hk _ => hk).v ((hcf.keeps hW).mono fun k (h : k < w5.heap.size) => Nat.lt_of_lt_of_le h hW.size) (by rw [hdm]; omega) (by omega) (by omega) (fun j _ => by rw [HD.out]; rfl))
  have HKA5 := Lib.hid hKA5
  have HRO5 := Lib.hid (HRO4.out.keeps (hk5.mono HIN4.out))
  have HIN5 := Lib.hid (HIN4.out.mono hk5.size)
  have HRR := Lib.hid hrR
  have HRES := Lib.hid hres
  have HML := Lib.hid hml
  have HCV := Lib.hid hcv
  clear hrR hres hcont hcf hcv hb5 hk5 hF5 hdm hml hKA5 MF HF4 HRO4 HIN4 HKA
  have y0 : ((k + mlen : Nat)) = cl := hcl
  have y1 : (k : Int) ≤ cl := by omega
  have y2 : (cl : Int) ≤ cc := by omega
  have y4 : ¬ ((cl : Int) < k) := by omega
  have y5 : ¬ (cl < k) := by omega
  rw [y0]
  clear y0 hcl
  have y3 : (k : Int) ≤ cc := by omega
  dsimp only
  (repeat (first | go_values | go_skip | go_guarded | go_step | go_upon))
  have HS15 := Lib.hid (fun (W : World) (hW : Keeps (Old w5) w5 W) => show (W.cell? ⟨w2.heap.size, 0, none⟩ = some vd4 ∧ W.cell? ⟨w2.heap.size, 1, none⟩ = some vk4 ∧ W.cell? ⟨w2.heap.size, 2, none⟩ = some vw4) ∧ (convert 22 9 (.slice ac k cc)).run Tryd.prog W = .ok (.string ⟨ps.toArray⟩) W ∧ (convert 22 9 (.slice sa k sc)).run Tryd.prog W = .ok (.string ⟨ps.toArray⟩) W from
    ⟨⟨(hW.cell (a := ⟨w2.heap.size, 0, none⟩) (block_lt_of_cell f0)).trans f0, (hW.cell (a := ⟨w2.heap.size, 1, none⟩) (block_lt_of_cell f1)).trans f1, (hW.cell (a := ⟨w2.heap.size, 2, none⟩) (block_lt_of_cell f2)).trans f2⟩, HCV.out W hW⟩)
  have SM15 := Lib.hid ((SM.out w5.drew (Keeps.drew (Old w5) w5)).mono fun e w' (h : e = .returned (.bool true) ∧ Below w5.drew.heap.size w5.drew w') => (⟨h.1, (Keeps.drew (Old w5) w5).trans (below_keeps h.2)⟩ : e = .returned (.bool true) ∧ Keeps (Old w5) w5 w'))
  clear HCV SM
  go_region_held3 (fun W => (W.cell? ⟨w2.heap.size, 0, none⟩ = some vd4 ∧ W.cell? ⟨w2.heap.size, 1, none⟩ = some vk4 ∧ W.cell? ⟨w2.heap.size, 2, none⟩ = some vw4) ∧ (convert 22 9 (.slice ac k cc)).run Tryd.prog W = .ok (.string ⟨ps.toArray⟩) W ∧ (convert 22 9 (.slice sa k sc)).run Tryd.prog W = .ok (.string ⟨ps.toArray⟩) W)
    (first | exact HS15.out _ HK6.out | exact HS15.out _ (Keeps.drew _ _))
    ((go_at_call 11; refine SM15.out.mono ?_; rintro e w6 ⟨rfl, hk6⟩; have HK6 := Lib.hid hk6; clear hk6; dsimp only))
  have hKA6 := HKA5.out.trans (HK6.out.mono (old_mono HKA5.out))
  have NF := Lib.hid (newFile_any (Old w6) w6 (sn - k) (sc - k) _ ts (fun _ h => h) ((HSF.out.keeps hKA6).mono (old_mono hKA6)) (by omega) (by have := HTL.out; omega))
  have HRO6 := Lib.hid (((HRO5.out.keeps (HK6.out.mono HIN5.out)).mono fun k hk => Nat.lt_of_lt_of_le (HIN5.out k hk) HK6.out.size))
  have HRR6 := Lib.hid (HRR.out.keeps HK6.out)
  have HKA6 := Lib.hid hKA6
  clear hKA6 HRO5 HRR HIN5 HKA5 HS15 SM15
  (repeat (first | go_values | go_skip | go_guarded | go_step | go_upon))
  refine NF.out.mono ?_
  rintro e w7 ⟨vd7, vk7, vw7, rfl, hfv7, hk7⟩
  obtain ⟨d1, e1, rfl, -⟩ := hfv7.rd.slice
  obtain ⟨d2, e2, rfl, -⟩ := hfv7.rk.slice
  obtain ⟨d3, e3, rfl, -⟩ := hfv7.rw.slice
  have HFV7 := Lib.hid hfv7
  have HK7 := Lib.hid hk7
  clear hfv7 hk7 NF
  dsimp only
  (repeat (first | go_values | go_skip | go_guarded | go_step | go_upon))
  have hF8 : FileIs (Old w6) (w7.alloc (.cells #[.slice d1 (Fl.new ts).d.length e1, .slice d2 (Fl.new ts).d.length e2, .slice d3 (Fl.new ts).d.length e3] 27)) w7.heap.size _ _ _ (Fl.new ts) :=
    ⟨heap_alloc_new _ _, fun h => by have h' : w7.heap.size < w6.heap.size := h; have := HK7.out.size; omega, HFV7.out.alloc _⟩
  have hk8 : Keeps (Old w6) w6 (w7.alloc (.cells #[.slice d1 (Fl.new ts).d.length e1, .slice d2 (Fl.new ts).d.length e2, .slice d3 (Fl.new ts).d.length e3] 27)) := HK7.out.trans (Keeps.alloc (old_mono HK7.out) _)
  generalize w7.alloc (.cells #[.slice d1 (Fl.new ts).d.length e1, .slice d2 (Fl.new ts).d.length e2, .slice d3 (Fl.new ts).d.length e3] 27) = W8 at *
  refine loop4b _ (Old w6) W8 w7.heap.size _ _ _ (Fl.new ts) L R ao ar n co cr _ (old_mono hk8) HLN.out (by omega) hco hcr (HRO6.out.keeps hk8) (fun w' hk' => HRR6.out.keeps (hk8.trans hk')) HRES.out hF8 (by show ts.length ≤ 262144; omega) HFF.out ⟨rfl, rfl, rfl, rfl, rfl, rfl, rfl⟩ ?_
  intro a9 w9 ha9 hk9
  obtain ⟨u9, rfl⟩ := frm4b ha9
  have hKA9 := HKA6.out.trans ((hk8.trans hk9).mono (old_mono HKA6.out))
  have MM := Lib.hid (memory_any w9 va vb ((HV.out.keeps hKA9).mono (old_mono hKA9)))
  have HB9 := Lib.hid (hKA9.below (B := w.heap.size) fun _ h => h)
  clear ha9 hk9 hKA9 hk8 hF8
  simp only [Exit.inBlock, ↓reduceIte]
  (repeat (first | go_values | go_skip | go_guarded | go_step | go_upon))
  refine MM.out.mono ?_
  rintro e w10 ⟨rfl, hb10⟩
  have HB10 := Lib.hid (HB9.out.trans (hb10.mono HB9.out.size))
  clear hb10 MM
  dsimp only
  (repeat (first | go_values | go_skip | go_guarded | go_step | go_upon))
  go_ret
  exact ⟨rfl, HB10.out⟩

end Go.Proofs.YtkkliejgmgmebaaDoor
