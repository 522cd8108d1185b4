/-
  File.Change.
-/
import Derived.Test.YtkkliejgmgmebaaDoorS6
namespace Go.Proofs.YtkkliejgmgmebaaDoor
open Go.RowKit

/-- a hole -/
def Fl.punch (F : Fl) (off size : Nat) : Fl := ⟨F.d, splice F.k off (List.replicate size false), F.r⟩
/-- a call that changes a file -/
def Fl.change (F : Fl) (kind off size : Int) (bs : List UInt8) : Fl :=
  if kind = 0 then F.write off.toNat bs else if kind = 2 then F.size size.toNat else if kind = 3 then F.punch off.toNat size.toNat else F

noncomputable def body9 : Code := ((Tryd.f9.body.bind firstLoop).getD .skip)

structure frm9p (s0 s3 s4 : Value) (a : Act) : Prop where
  df : a.defers = []
  sz : a.tmps.size = 40
  h0 : a.tmps.getD 0 undef = s0
  h3 : a.tmps.getD 3 undef = s3
  h4 : a.tmps.getD 4 undef = s4
set_option maxRecDepth 100000 in
theorem frm9 {s0 s3 s4 : Value} {a : Act} (h : frm9p s0 s3 s4 a) : ∃ u : Nat → Value, a = ⟨#[s0, u 1, u 2, s3, s4, u 5, u 6, u 7, u 8, u 9, u 10, u 11, u 12, u 13, u 14, u 15, u 16, u 17, u 18, u 19, u 20, u 21, u 22, u 23, u 24, u 25, u 26, u 27, u 28, u 29, u 30, u 31, u 32, u 33, u 34, u 35, u 36, u 37, u 38, u 39], []⟩ := by
  obtain ⟨F, df⟩ := a
  obtain ⟨rfl, hs, rfl, rfl, rfl⟩ := h
  refine ⟨fun i => F.getD i undef, ?_⟩
  have e := open_frame F
  rw [hs] at e
  exact congrArg (Act.mk · []) e

theorem FileIs.punched {Pr : Nat → Prop} {w : World} {g gk ck l off i n : Nat} {vd vw : Value} {F : Fl} (hf : FileIs Pr w g vd (.slice (some ⟨gk, 0, none⟩) l ck) vw (F.punch off i)) (hi : i < n) (hn : off + n ≤ F.d.length) :
    FileIs Pr (w.setCell ⟨gk, off + i, none⟩ (.bool false)) g vd (.slice (some ⟨gk, 0, none⟩) l ck) vw (F.punch off (i + 1)) := by
  obtain ⟨_, _, e0, -⟩ := hf.v.rk.slice
  simp only [Value.slice.injEq] at e0
  obtain rfl : l = F.d.length := e0.2.1
  have gk1 : gk ≠ g := fun e => hf.v.rk.neElem hf.cell (by decide) (by rw [← e]; rfl)
  have hk : F.k.length = F.d.length := by
    have h2 : (splice F.k off (List.replicate i false)).length = F.d.length := hf.v.lk
    simp only [splice, List.length_append, List.length_take, List.length_drop, List.length_replicate] at h2
    omega
  refine ⟨?_, hf.ng, ⟨hf.v.rd.setCell (a := ⟨gk, off + i, none⟩) (fun e => hf.v.rd.neRow hf.v.rk (by decide) e rfl) _, ?_, hf.v.rw.setCell (a := ⟨gk, off + i, none⟩) (fun e => hf.v.ne gk rfl e) _, hf.v.ne⟩⟩
  · rw [heap_set_other _ _ _ (by exact gk1.symm)]; exact hf.cell
  · have := hf.v.rk.stored (off + i) (.bool false)
    have e : (bls (F.punch off i).k).set (off + i) (.bool false) = bls (F.punch off (i + 1)).k := by
      show (List.map _ (splice F.k off (List.replicate i false))).set (off + i) _ = List.map _ (splice F.k off (List.replicate (i + 1) false))
      have h := splice_set F.k off (List.replicate (i + 1) false) i false (by simp) (by simp; omega)
      rw [List.take_replicate, List.take_replicate, Nat.min_eq_left (by omega), Nat.min_self] at h
      rw [← h, List.map_set]
    rw [e] at this
    exact this

set_option maxRecDepth 100000 in
set_option maxHeartbeats 4000000 in
theorem change_loop (Q0 : Exit → Act → World → Prop) (Pr : Nat → Prop) (g B : Nat) (vd vk vw : Value) (F : Fl) (w : World) (off n : Nat) (data : Value) (A : Act) (h : FileIs Pr w g vd vk vw F) (hfit : off + n ≤ F.d.length) (hl : F.d.length ≤ 100000000)
    (hB : w.heap[B]? = some (.cells #[.int .i64 3, .int .i64 (off : Int), .int .i64 (n : Int), data] 32 (0, 0)))
    (hA : frm9p (.pointer (some ⟨g, 0, none⟩)) (.pointer (some ⟨B, 0, none⟩)) (.int .i64 (off : Int)) A)
    (hexit : ∀ a' w', a'.defers = [] → FileIs Pr w' g vd vk vw (F.punch off n) → Keeps Pr w w' → Q0 (.exit 1) a' w') :
    Code.wp Tryd.prog (Code.loop body9) Q0 A w := by
  refine wp_loop_ghost (fun k a' w' => ∃ i : Nat, k = n - i ∧ i ≤ n ∧ frm9p (.pointer (some ⟨g, 0, none⟩)) (.pointer (some ⟨B, 0, none⟩)) (.int .i64 ((off + i : Nat) : Int)) a' ∧
    FileIs Pr w' g vd vk vw (F.punch off i) ∧ Keeps Pr w w' ∧ w'.heap[B]? = some (.cells #[.int .i64 3, .int .i64 (off : Int), .int .i64 (n : Int), data] 32 (0, 0))) n ⟨0, rfl, Nat.zero_le _, hA, by simpa [Fl.punch, splice_nil] using h, Keeps.refl _ _, hB⟩ ?_
  rintro k a' w' ⟨i, rfl, hi, ha, hf, hk, hb⟩
  obtain ⟨u, rfl⟩ := frm9 ha
  clear ha hA hB
  obtain ⟨b0, b1⟩ := cells_at hb
  have x1 := b0 1
  have x2 := b0 2
  simp only [List.getElem?_toArray, List.getElem?_cons_succ, List.getElem?_cons_zero] at x1 x2
  clear b0 b1
  conv => arg 2; whnf
  have HE := Lib.hid hexit
  have HK := Lib.hid hk
  have HB := Lib.hid hb
  clear hexit hk hb h
  by_cases hlt : i < n
  · obtain ⟨gk, ck, rfl, hck, -, -, kc, kf⟩ := hf.v.rk.opened (show 0 < F.d.length by omega)
    have hk0 := kc (off + i) (show off + i < F.d.length by omega)
    obtain ⟨y, hy⟩ : ∃ y, (bls (F.punch off i).k)[off + i]? = some y := ⟨_, List.getElem?_eq_getElem (by rw [List.length_map, hf.v.lk]; show off + i < F.d.length; omega)⟩
    rw [hy] at hk0
    have kf0 := kf (off + i)
    obtain ⟨-, c1, -⟩ := hf.cells
    replace c1 : w'.cell? ⟨g, 1, none⟩ = some (.slice (some ⟨gk, 0, none⟩) F.d.length ck) := c1
    have hnb : B ≠ gk := fun e => hf.v.rk.neElem HB.out (by decide) (by rw [e]; rfl)
    have hck' : F.d.length ≤ ck := hck
    have HF := Lib.hid hf
    clear hf kc kf hy hck
    (repeat (first | go_values | go_skip | go_guarded | go_step | go_upon))
    refine ⟨n - (i + 1), by omega, i + 1, rfl, by omega, ⟨rfl, rfl, rfl, rfl, by go_num⟩, HF.out.punched hlt hfit, HK.out.trans (Keeps.setCell (a := ⟨gk, off + i, none⟩) (HF.out.v.rk.own (k := gk) rfl).2.1 _), ?_⟩
    rw [heap_set_other _ _ _ (by exact hnb)]
    exact HB.out
  · obtain rfl : i = n := by omega
    have HF := Lib.hid hf
    clear hf
    (repeat (first | go_values | go_skip | go_guarded | go_step | go_upon))
    exact HE.out _ _ rfl HF.out HK.out

theorem FileIs.box {Pr : Nat → Prop} {w : World} {g : Nat} {vd vk vw : Value} {F : Fl} (h : FileIs Pr w g vd vk vw F) (o : Obj) : FileIs Pr (w.alloc o) g vd vk vw F :=
  ⟨(heap_alloc_lt _ _ (lt_of_heap h.cell)).trans h.cell, h.ng, h.v.alloc o⟩

set_option maxRecDepth 100000 in
set_option maxHeartbeats 4000000 in
theorem change_0 (Pr : Nat → Prop) (g : Nat) (vd vk vw : Value) (F : Fl) (w : World) (off : Nat) (size : Int) (da : Option Addr) (dn dc : Nat) (bs : List UInt8) (hin : Inw Pr w) (h : FileIs Pr w g vd vk vw F) (hr : Rd Pr w da dn bs) (hdc : dn ≤ dc) (hl : F.d.length ≤ 10000000) (ho : off ≤ 1000000) (hd : dn ≤ 1000000) :
    Calls Tryd.prog 9 #[.pointer (some ⟨g, 0, none⟩), .agg #[.int .i64 0, .int .i64 (off : Int), .int .i64 size, .slice da dn dc]] w fun e w' => e = .returned (.tuple #[]) ∧ ∃ vd' vk' vw', FileIs Pr w' g vd' vk' vw' (F.write off bs) ∧ Keeps Pr w w' := by
  have H := Lib.hid h
  have HI := Lib.hid hin
  have HR := Lib.hid hr
  clear h hin hr
  go_enter Tryd.func9, Tryd.ntmps9
  (repeat (first | go_values | go_skip | go_guarded | go_step | go_upon))
  refine (write_any Pr g vd vk vw F _ off dn dc da bs (HI.out.mono (by simp)) (H.out.box _) (HR.out.keeps (Keeps.alloc HI.out _)) hdc hl ho hd).mono ?_
  rintro e w' ⟨rfl, vd', vk', vw', hf, hk⟩
  have HF := Lib.hid hf
  have HK := Lib.hid hk
  clear hf hk
  dsimp only
  (repeat (first | go_values | go_skip | go_guarded | go_step | go_upon))
  exact bodyPost_end (results_none rfl _ _ _) rfl ⟨rfl, _, _, _, HF.out, (Keeps.alloc HI.out _).trans HK.out⟩

set_option maxRecDepth 100000 in
set_option maxHeartbeats 4000000 in
theorem change_2 (Pr : Nat → Prop) (g : Nat) (vd vk vw : Value) (F : Fl) (w : World) (off : Int) (size : Nat) (data : Value) (a0 : Option Addr) (n0 c0 : Nat) (hdt : data = .slice a0 n0 c0) (hin : Inw Pr w) (h : FileIs Pr w g vd vk vw F) (hn : size ≤ 10000000) :
    Calls Tryd.prog 9 #[.pointer (some ⟨g, 0, none⟩), .agg #[.int .i64 2, .int .i64 off, .int .i64 (size : Int), data]] w fun e w' => e = .returned (.tuple #[]) ∧ ∃ vd' vk' vw', FileIs Pr w' g vd' vk' vw' (F.size size) ∧ Keeps Pr w w' := by
  subst hdt
  have H := Lib.hid h
  have HI := Lib.hid hin
  clear h hin
  go_enter Tryd.func9, Tryd.ntmps9
  (repeat (first | go_values | go_skip | go_guarded | go_step | go_upon))
  refine (size_any Pr g vd vk vw F _ size (HI.out.mono (by simp)) (H.out.box _) hn).mono ?_
  rintro e w' ⟨rfl, vd', vk', vw', hf, hk⟩
  have HF := Lib.hid hf
  have HK := Lib.hid hk
  clear hf hk
  dsimp only
  (repeat (first | go_values | go_skip | go_guarded | go_step | go_upon))
  exact bodyPost_end (results_none rfl _ _ _) rfl ⟨rfl, _, _, _, HF.out, (Keeps.alloc HI.out _).trans HK.out⟩

set_option maxRecDepth 100000 in
set_option maxHeartbeats 4000000 in
theorem change_3 (Pr : Nat → Prop) (g : Nat) (vd vk vw : Value) (F : Fl) (w : World) (off n : Nat) (data : Value) (a0 : Option Addr) (n0 c0 : Nat) (hdt : data = .slice a0 n0 c0) (hin : Inw Pr w) (h : FileIs Pr w g vd vk vw F) (hfit : off + n ≤ F.d.length) (hl : F.d.length ≤ 100000000) :
    Calls Tryd.prog 9 #[.pointer (some ⟨g, 0, none⟩), .agg #[.int .i64 3, .int .i64 (off : Int), .int .i64 (n : Int), data]] w fun e w' => e = .returned (.tuple #[]) ∧ ∃ vd' vk' vw', FileIs Pr w' g vd' vk' vw' (F.punch off n) ∧ Keeps Pr w w' := by
  subst hdt
  have H := Lib.hid h
  have HI := Lib.hid hin
  clear h hin
  go_enter Tryd.func9, Tryd.ntmps9
  (repeat (first | go_values | go_skip | go_guarded | go_step | go_upon))
  refine change_loop _ Pr g w.heap.size vd vk vw F _ off n _ _ (H.out.box _) hfit hl (heap_alloc_new w _) ⟨rfl, rfl, rfl, rfl, rfl⟩ ?_
  intro a' w' hd hf hk
  have HF := Lib.hid hf
  have HK := Lib.hid ((Keeps.alloc HI.out _).trans hk)
  clear hf hk
  simp only [Exit.inBlock, ↓reduceIte]
  exact bodyPost_end (results_none rfl _ _ _) hd ⟨rfl, _, _, _, HF.out, HK.out⟩

set_option maxRecDepth 100000 in
set_option maxHeartbeats 4000000 in
theorem change_x (Pr : Nat → Prop) (g : Nat) (w : World) (kind off size : Int) (data : Value) (a0 : Option Addr) (n0 c0 : Nat) (hdt : data = .slice a0 n0 c0) (hin : Inw Pr w) (k0 : kind ≠ 0) (k2 : kind ≠ 2) (k3 : kind ≠ 3) :
    Calls Tryd.prog 9 #[.pointer (some ⟨g, 0, none⟩), .agg #[.int .i64 kind, .int .i64 off, .int .i64 size, data]] w fun e w' => e = .returned (.tuple #[]) ∧ w' = w.alloc (.cells #[.int .i64 kind, .int .i64 off, .int .i64 size, data] 32) := by
  subst hdt
  have HI := Lib.hid hin
  have b0 : (kind == 0) = false := by simpa using k0
  have b2 : (kind == 2) = false := by simpa using k2
  have b3 : (kind == 3) = false := by simpa using k3
  clear hin k0 k2 k3
  go_enter Tryd.func9, Tryd.ntmps9
  (repeat (first | go_values | go_skip | go_guarded | go_step | go_upon))
  exact bodyPost_end (results_none rfl _ _ _) rfl ⟨rfl, rfl⟩

theorem fitsB_0 {len : Nat} {off size : Int} {dn : Nat} (h : fitsB len 0 off size dn = true) : 0 ≤ off ∧ off ≤ 131072 ∧ 0 < dn ∧ dn ≤ 131072 := by
  unfold fitsB at h; rw [if_pos rfl] at h; exact of_decide_eq_true h
theorem fitsB_1 {len : Nat} {off size : Int} {dn : Nat} (h : fitsB len 1 off size dn = true) : 0 ≤ off ∧ off ≤ 131072 ∧ 0 < size ∧ size ≤ 65536 := by
  unfold fitsB at h; rw [if_neg (by decide), if_pos rfl] at h; exact of_decide_eq_true h
theorem fitsB_2 {len : Nat} {off size : Int} {dn : Nat} (h : fitsB len 2 off size dn = true) : 0 ≤ size ∧ size ≤ 131072 := by
  unfold fitsB at h; rw [if_neg (by decide), if_neg (by decide), if_pos rfl] at h; exact of_decide_eq_true h
theorem fitsB_3 {len : Nat} {off size : Int} {dn : Nat} (h : fitsB len 3 off size dn = true) : 0 ≤ off ∧ 0 ≤ size ∧ size ≤ 131072 ∧ off ≤ 131072 ∧ off + size ≤ (len : Int) := by
  unfold fitsB at h; rw [if_neg (by decide), if_neg (by decide), if_neg (by decide), if_pos rfl] at h; exact of_decide_eq_true h
theorem fitsB_x {len : Nat} {kind off size : Int} {dn : Nat} (h : fitsB len kind off size dn = true) (k0 : kind ≠ 0) (k1 : kind ≠ 1) (k2 : kind ≠ 2) (k3 : kind ≠ 3) : 4 ≤ kind ∧ kind ≤ 7 := by
  unfold fitsB at h; rw [if_neg k0, if_neg k1, if_neg k2, if_neg k3] at h; exact of_decide_eq_true h

theorem change_any (Pr : Nat → Prop) (g : Nat) (vd vk vw : Value) (F : Fl) (w : World) (kind off size : Int) (da : Option Addr) (dn dc : Nat) (bs : List UInt8) (hin : Inw Pr w) (h : FileIs Pr w g vd vk vw F) (hr : Rd Pr w da dn bs) (hdc : dn ≤ dc) (hl : F.d.length ≤ 10000000) (hfit : fitsB F.d.length kind off size dn = true) :
    Calls Tryd.prog 9 #[.pointer (some ⟨g, 0, none⟩), .agg #[.int .i64 kind, .int .i64 off, .int .i64 size, .slice da dn dc]] w fun e w' => e = .returned (.tuple #[]) ∧ ∃ vd' vk' vw', FileIs Pr w' g vd' vk' vw' (F.change kind off size bs) ∧ Keeps Pr w w' := by
  by_cases k0 : kind = 0
  · subst k0
    obtain ⟨h1, h2, h3, h4⟩ := fitsB_0 hfit
    obtain ⟨o, rfl⟩ := Int.eq_ofNat_of_zero_le h1
    exact change_0 Pr g vd vk vw F w o size da dn dc bs hin h hr hdc hl (by omega) (by omega)
  by_cases k2 : kind = 2
  · subst k2
    obtain ⟨h1, h2⟩ := fitsB_2 hfit
    obtain ⟨o, rfl⟩ := Int.eq_ofNat_of_zero_le h1
    exact change_2 Pr g vd vk vw F w off o _ da dn dc rfl hin h (by omega)
  by_cases k3 : kind = 3
  · subst k3
    obtain ⟨h1, h2, h3, h4, h5⟩ := fitsB_3 hfit
    obtain ⟨o, rfl⟩ := Int.eq_ofNat_of_zero_le h1
    obtain ⟨n, rfl⟩ := Int.eq_ofNat_of_zero_le h2
    exact change_3 Pr g vd vk vw F w o n _ da dn dc rfl hin h (by omega) (by omega)
  · refine (change_x Pr g w kind off size _ da dn dc rfl hin k0 k2 k3).mono ?_
    rintro e w' ⟨rfl, rfl⟩
    have e : F.change kind off size bs = F := by unfold Fl.change; rw [if_neg k0, if_neg k2, if_neg k3]
    rw [e]
    exact ⟨rfl, vd, vk, vw, h.box _, Keeps.alloc hin _⟩

end Go.Proofs.YtkkliejgmgmebaaDoor
