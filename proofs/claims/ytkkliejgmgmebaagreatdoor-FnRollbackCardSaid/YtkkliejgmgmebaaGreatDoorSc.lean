/-
  File.Change.
-/
import Derived.Test.YtkkliejgmgmebaaGreatDoorS6
namespace Go.Proofs.YtkkliejgmgmebaaGreatDoor
open Go.RowKit

/-- a hole -/
def Fl.punch (F : Fl) (off size : Nat) : Fl := ⟨F.d, splice F.k off (List.replicate size false), F.r⟩
/-- a call that changes a file -/
def Fl.change (F : Fl) (kind off size : Int) (bs : List UInt8) : Fl :=
  if kind = 0 then F.write off.toNat bs else if kind = 2 then F.size size.toNat else if kind = 3 then F.punch off.toNat size.toNat else F

noncomputable def body9 : Code := ((Tryz.f25.body.bind firstLoop).getD .skip)

structure frm9p (s0 s3 s4 : Value) (a : Act) : Prop where
  df : a.defers = []
  sz : a.tmps.size = 40
  h0 : a.tmps.getD 0 undef = s0
  h3 : a.tmps.getD 3 undef = s3
  h4 : a.tmps.getD 4 undef = s4
set_option maxRecDepth 100000 in
theorem frm9 {s0 s3 s4 : Value} {a : Act} (h : frm9p s0 s3 s4 a) : ∃ u : Nat → Value, a = ⟨#[s0, u 1, u 2, s3, s4, u 5, u 6, u 7, u 8, u 9, u 10, u 11, u 12, u 13, u 14, u 15, u 16, u 17, u 18, u 19, u 20, u 21, u 22, u 23, u 24, u 25, u 26, u 27, u 28, u 29, u 30, u 31, u 32, u 33, u 34, u 35, u 36, u 37, u 38, u 39], []⟩ := by
  obtain ⟨F, df⟩ := a
  obtain ⟨rfl, hs, rfl, rfl, rfl⟩ := h
  refine ⟨fun i => F.getD i undef, ?_⟩
  have e := open_frame F
  rw [hs] at e
  exact congrArg (Act.mk · []) e

theorem FileIs.punched {Pr : Nat → Prop} {w : World} {g : FP} {gk ck l off i n : Nat} {vd vw : Value} {F : Fl} (hf : FileIs Pr w g vd (.slice (some ⟨gk, 0, none⟩) l ck) vw (F.punch off i)) (hi : i < n) (hn : off + n ≤ F.d.length) :
    FileIs Pr (w.setCell ⟨gk, off + i, none⟩ (.bool false)) g vd (.slice (some ⟨gk, 0, none⟩) l ck) vw (F.punch off (i + 1)) := by
  obtain ⟨_, _, e0, -⟩ := hf.v.rk.slice
  simp only [Value.slice.injEq] at e0
  obtain rfl : l = F.d.length := e0.2.1
  have gk1 : gk ≠ g.b := fun e => hf.v.rk.neElem hf.cell (by decide) (by rw [← e]; rfl)
  have hk : F.k.length = F.d.length := by
    have h2 : (splice F.k off (List.replicate i false)).length = F.d.length := hf.v.lk
    simp only [splice, List.length_append, List.length_take, List.length_drop, List.length_replicate] at h2
    omega
  refine ⟨?_, hf.lo, hf.ng, ⟨hf.v.rd.setCell (a := ⟨gk, off + i, none⟩) (fun e => hf.v.rd.neRow hf.v.rk (by decide) e rfl) _, ?_, hf.v.rw.setCell (a := ⟨gk, off + i, none⟩) (fun e => hf.v.ne gk rfl e) _, hf.v.ne⟩⟩
  · rw [heap_set_other _ _ _ (by exact gk1.symm)]; exact hf.cell
  · have := hf.v.rk.stored (off + i) (.bool false)
    have e : (bls (F.punch off i).k).set (off + i) (.bool false) = bls (F.punch off (i + 1)).k := by
      show (List.map _ (splice F.k off (List.replicate i false))).set (off + i) _ = List.map _ (splice F.k off (List.replicate (i + 1) false))
      have h := splice_set F.k off (List.replicate (i + 1) false) i false (by simp) (by simp; omega)
      rw [List.take_replicate, List.take_replicate, Nat.min_eq_left (by omega), Nat.min_self] at h
      rw [← h, List.map_set]
    rw [e] at this
    exact this

set_option maxRecDepth 100000 in
set_option maxHeartbeats 4000000 in
theorem change_loop (Q0 : Exit → Act → World → Prop) (Pr : Nat → Prop) (g : FP) (B : Nat) (vd vk vw : Value) (F : Fl) (w : World) (off n : Nat) (data : Value) (A : Act) (h : FileIs Pr w g vd vk vw F) (hfit : off + n ≤ F.d.length) (hl : F.d.length ≤ 100000000)
    (hB : w.heap[B]? = some (.cells #[.int .i64 3, .int .i64 (off : Int), .int .i64 (n : Int), data] 47 (0, 0)))
    (hA : frm9p (.pointer (some ⟨g.b, g.o, none⟩)) (.pointer (some ⟨B, 0, none⟩)) (.int .i64 (off : Int)) A)
    (hexit : ∀ a' w', a'.defers = [] → FileIs Pr w' g vd vk vw (F.punch off n) → Keeps Pr w w' → Q0 (.exit 1) a' w') :
    Code.wp Tryz.prog (Code.loop body9) Q0 A w := by
  refine wp_loop_ghost (fun k a' w' => ∃ i : Nat, k = n - i ∧ i ≤ n ∧ frm9p (.pointer (some ⟨g.b, g.o, none⟩)) (.pointer (some ⟨B, 0, none⟩)) (.int .i64 ((off + i : Nat) : Int)) a' ∧
    FileIs Pr w' g vd vk vw (F.punch off i) ∧ Keeps Pr w w' ∧ w'.heap[B]? = some (.cells #[.int .i64 3, .int .i64 (off : Int), .int .i64 (n : Int), data] 47 (0, 0))) n ⟨0, rfl, Nat.zero_le _, hA, by simpa [Fl.punch, splice_nil] using h, Keeps.refl _ _, hB⟩ ?_
  rintro k a' w' ⟨i, rfl, hi, ha, hf, hk, hb⟩
  obtain ⟨u, rfl⟩ := frm9 ha
  clear ha hA hB
  obtain ⟨b0, b1⟩ := cells_at hb
  have x1 := b0 1
  have x2 := b0 2
  simp only [List.getElem?_toArray, List.getElem?_cons_succ, List.getElem?_cons_zero] at x1 x2
  clear b0 b1
  conv => arg 2; whnf
  have HE := Lib.hid hexit
  have HK := Lib.hid hk
  have HB := Lib.hid hb
  clear hexit hk hb h
  by_cases hlt : i < n
  · obtain ⟨gk, ck, rfl, hck, -, -, kc, kf⟩ := hf.v.rk.opened (show 0 < F.d.length by omega)
    have hk0 := kc (off + i) (show off + i < F.d.length by omega)
    obtain ⟨y, hy⟩ : ∃ y, (bls (F.punch off i).k)[off + i]? = some y := ⟨_, List.getElem?_eq_getElem (by rw [List.length_map, hf.v.lk]; show off + i < F.d.length; omega)⟩
    rw [hy] at hk0
    have kf0 := kf (off + i)
    obtain ⟨-, c1, -⟩ := hf.cells
    replace c1 : w'.cell? ⟨g.b, g.o + 1, none⟩ = some (.slice (some ⟨gk, 0, none⟩) F.d.length ck) := c1
    have hnb : B ≠ gk := fun e => hf.v.rk.neElem HB.out (by decide) (by rw [e]; rfl)
    have hck' : F.d.length ≤ ck := hck
    have HF := Lib.hid hf
    clear hf kc kf hy hck
    (repeat (first | go_values | go_skip | go_guarded | go_step | go_upon))
    refine ⟨n - (i + 1), by omega, i + 1, rfl, by omega, ⟨rfl, rfl, rfl, rfl, by go_num⟩, HF.out.punched hlt hfit, HK.out.trans (Keeps.setCell (a := ⟨gk, off + i, none⟩) (HF.out.v.rk.own (k := gk) rfl).2.1 _), ?_⟩
    rw [heap_set_other _ _ _ (by exact hnb)]
    exact HB.out
  · obtain rfl : i = n := by omega
    have HF := Lib.hid hf
    clear hf
    (repeat (first | go_values | go_skip | go_guarded | go_step | go_upon))
    exact HE.out _ _ rfl HF.out HK.out

theorem FileIs.box {Pr : Nat → Prop} {w : World} {g : FP} {vd vk vw : Value} {F : Fl} (h : FileIs Pr w g vd vk vw F) (o : Obj) : FileIs Pr (w.alloc o) g vd vk vw F :=
  ⟨(heap_alloc_lt _ _ (lt_of_heap h.cell)).trans h.cell, h.lo, h.ng, h.v.alloc o⟩

set_option maxRecDepth 100000 in
set_option maxHeartbeats 4000000 in
theorem change_0 (Pr : Nat → Prop) (g : FP) (vd vk vw : Value) (F : Fl) (w : World) (off : Nat) (size : Int) (da : Option Addr) (dn dc : Nat) (bs : List UInt8) (hin : Inw Pr w) (h : FileIs Pr w g vd vk vw F) (hr : Rd Pr w da dn bs) (hdc : dn ≤ dc) (hl : F.d.length ≤ 10000000) (ho : off ≤ 1000000) (hd : dn ≤ 1000000) :
    Calls Tryz.prog 25 #[.pointer (some ⟨g.b, g.o, none⟩), .agg #[.int .i64 0, .int .i64 (off : Int), .int .i64 size, .slice da dn dc]] w fun e w' => e = .returned (.tuple #[]) ∧ ∃ vd' vk' vw', FileIs Pr w' g vd' vk' vw' (F.write off bs) ∧ Keeps Pr w w' := by
  have H := Lib.hid h
  have HI := Lib.hid hin
  have HR := Lib.hid hr
  clear h hin hr
  go_enter Tryz.func25, Tryz.ntmps25
  (repeat (first | go_values | go_skip | go_guarded | go_step | go_upon))
  refine (write_any Pr g vd vk vw F _ off dn dc da bs (HI.out.mono (by simp)) (H.out.box _) (HR.out.keeps (Keeps.alloc HI.out _)) hdc (by omega) (by omega) (by omega)).mono ?_
  rintro e w' ⟨rfl, vd', vk', vw', hf, hk⟩
  have HF := Lib.hid hf
  have HK := Lib.hid hk
  clear hf hk
  dsimp only
  (repeat (first | go_values | go_skip | go_guarded | go_step | go_upon))
  exact bodyPost_end (results_none rfl _ _ _) rfl ⟨rfl, _, _, _, HF.out, (Keeps.alloc HI.out _).trans HK.out⟩

set_option maxRecDepth 100000 in
set_option maxHeartbeats 4000000 in
theorem change_2 (Pr : Nat → Prop) (g : FP) (vd vk vw : Value) (F : Fl) (w : World) (off : Int) (size : Nat) (data : Value) (a0 : Option Addr) (n0 c0 : Nat) (hdt : data = .slice a0 n0 c0) (hin : Inw Pr w) (h : FileIs Pr w g vd vk vw F) (hn : size ≤ 10000000) :
    Calls Tryz.prog 25 #[.pointer (some ⟨g.b, g.o, none⟩), .agg #[.int .i64 2, .int .i64 off, .int .i64 (size : Int), data]] w fun e w' => e = .returned (.tuple #[]) ∧ ∃ vd' vk' vw', FileIs Pr w' g vd' vk' vw' (F.size size) ∧ Keeps Pr w w' := by
  subst hdt
  have H := Lib.hid h
  have HI := Lib.hid hin
  clear h hin
  go_enter Tryz.func25, Tryz.ntmps25
  (repeat (first | go_values | go_skip | go_guarded | go_step | go_upon))
  refine (size_any Pr g vd vk vw F _ size (HI.out.mono (by simp)) (H.out.box _) (by omega)).mono ?_
  rintro e w' ⟨rfl, vd', vk', vw', hf, hk⟩
  have HF := Lib.hid hf
  have HK := Lib.hid hk
  clear hf hk
  dsimp only
  (repeat (first | go_values | go_skip | go_guarded | go_step | go_upon))
  exact bodyPost_end (results_none rfl _ _ _) rfl ⟨rfl, _, _, _, HF.out, (Keeps.alloc HI.out _).trans HK.out⟩

set_option maxRecDepth 100000 in
set_option maxHeartbeats 4000000 in
theorem change_3 (Pr : Nat → Prop) (g : FP) (vd vk vw : Value) (F : Fl) (w : World) (off n : Nat) (data : Value) (a0 : Option Addr) (n0 c0 : Nat) (hdt : data = .slice a0 n0 c0) (hin : Inw Pr w) (h : FileIs Pr w g vd vk vw F) (hfit : off + n ≤ F.d.length) (hl : F.d.length ≤ 100000000) :
    Calls Tryz.prog 25 #[.pointer (some ⟨g.b, g.o, none⟩), .agg #[.int .i64 3, .int .i64 (off : Int), .int .i64 (n : Int), data]] w fun e w' => e = .returned (.tuple #[]) ∧ ∃ vd' vk' vw', FileIs Pr w' g vd' vk' vw' (F.punch off n) ∧ Keeps Pr w w' := by
  subst hdt
  have H := Lib.hid h
  have HI := Lib.hid hin
  clear h hin
  go_enter Tryz.func25, Tryz.ntmps25
  (repeat (first | go_values | go_skip | go_guarded | go_step | go_upon))
  refine change_loop _ Pr g w.heap.size vd vk vw F _ off n _ _ (H.out.box _) hfit hl (heap_alloc_new w _) ⟨rfl, rfl, rfl, rfl, rfl⟩ ?_
  intro a' w' hd hf hk
  have HF := Lib.hid hf
  have HK := Lib.hid ((Keeps.alloc HI.out _).trans hk)
  clear hf hk
  simp only [Exit.inBlock, ↓reduceIte]
  exact bodyPost_end (results_none rfl _ _ _) hd ⟨rfl, _, _, _, HF.out, HK.out⟩

set_option maxRecDepth 100000 in
set_option maxHeartbeats 4000000 in
theorem change_x (Pr : Nat → Prop) (g : FP) (w : World) (kind off size : Int) (data : Value) (a0 : Option Addr) (n0 c0 : Nat) (hdt : data = .slice a0 n0 c0) (hin : Inw Pr w) (k0 : kind ≠ 0) (k2 : kind ≠ 2) (k3 : kind ≠ 3) :
    Calls Tryz.prog 25 #[.pointer (some ⟨g.b, g.o, none⟩), .agg #[.int .i64 kind, .int .i64 off, .int .i64 size, data]] w fun e w' => e = .returned (.tuple #[]) ∧ w' = w.alloc (.cells #[.int .i64 kind, .int .i64 off, .int .i64 size, data] 47) := by
  subst hdt
  have HI := Lib.hid hin
  have b0 : (kind == 0) = false := by simpa using k0
  have b2 : (kind == 2) = false := by simpa using k2
  have b3 : (kind == 3) = false := by simpa using k3
  clear hin k0 k2 k3
  go_enter Tryz.func25, Tryz.ntmps25
  (repeat (first | go_values | go_skip | go_guarded | go_step | go_upon))
  exact bodyPost_end (results_none rfl _ _ _) rfl ⟨rfl, rfl⟩

theorem fitsB_0 {len : Nat} {off size : Int} {dn : Nat} (h : fitsB len 0 off size dn = true) : 0 ≤ off ∧ off ≤ 131072 ∧ 0 < dn ∧ dn ≤ 131072 := by
  unfold fitsB at h; rw [if_pos rfl] at h; exact of_decide_eq_true h
theorem fitsB_1 {len : Nat} {off size : Int} {dn : Nat} (h : fitsB len 1 off size dn = true) : 0 ≤ off ∧ off ≤ 131072 ∧ 0 < size ∧ size ≤ 65536 := by
  unfold fitsB at h; rw [if_neg (by decide), if_pos rfl] at h; exact of_decide_eq_true h
theorem fitsB_2 {len : Nat} {off size : Int} {dn : Nat} (h : fitsB len 2 off size dn = true) : 0 ≤ size ∧ size ≤ 131072 := by
  unfold fitsB at h; rw [if_neg (by decide), if_neg (by decide), if_pos rfl] at h; exact of_decide_eq_true h
theorem fitsB_3 {len : Nat} {off size : Int} {dn : Nat} (h : fitsB len 3 off size dn = true) : 0 ≤ off ∧ 0 ≤ size ∧ size ≤ 131072 ∧ off ≤ 131072 ∧ off + size ≤ (len : Int) := by
  unfold fitsB at h; rw [if_neg (by decide), if_neg (by decide), if_neg (by decide), if_pos rfl] at h; exact of_decide_eq_true h
theorem fitsB_x {len : Nat} {kind off size : Int} {dn : Nat} (h : fitsB len kind off size dn = true) (k0 : kind ≠ 0) (k1 : kind ≠ 1) (k2 : kind ≠ 2) (k3 : kind ≠ 3) : 4 ≤ kind ∧ kind ≤ 7 := by
  unfold fitsB at h; rw [if_neg k0, if_neg k1, if_neg k2, if_neg k3] at h; exact of_decide_eq_true h

theorem change_any (Pr : Nat → Prop) (g : FP) (vd vk vw : Value) (F : Fl) (w : World) (kind off size : Int) (da : Option Addr) (dn dc : Nat) (bs : List UInt8) (hin : Inw Pr w) (h : FileIs Pr w g vd vk vw F) (hr : Rd Pr w da dn bs) (hdc : dn ≤ dc) (hl : F.d.length ≤ 10000000) (hfit : fitsB F.d.length kind off size dn = true) :
    Calls Tryz.prog 25 #[.pointer (some ⟨g.b, g.o, none⟩), .agg #[.int .i64 kind, .int .i64 off, .int .i64 size, .slice da dn dc]] w fun e w' => e = .returned (.tuple #[]) ∧ ∃ vd' vk' vw', FileIs Pr w' g vd' vk' vw' (F.change kind off size bs) ∧ Keeps Pr w w' := by
  by_cases k0 : kind = 0
  · subst k0
    obtain ⟨h1, h2, h3, h4⟩ := fitsB_0 hfit
    obtain ⟨o, rfl⟩ := Int.eq_ofNat_of_zero_le h1
    exact change_0 Pr g vd vk vw F w o size da dn dc bs hin h hr hdc hl (by omega) (by omega)
  by_cases k2 : kind = 2
  · subst k2
    obtain ⟨h1, h2⟩ := fitsB_2 hfit
    obtain ⟨o, rfl⟩ := Int.eq_ofNat_of_zero_le h1
    exact change_2 Pr g vd vk vw F w off o _ da dn dc rfl hin h (by omega)
  by_cases k3 : kind = 3
  · subst k3
    obtain ⟨h1, h2, h3, h4, h5⟩ := fitsB_3 hfit
    obtain ⟨o, rfl⟩ := Int.eq_ofNat_of_zero_le h1
    obtain ⟨n, rfl⟩ := Int.eq_ofNat_of_zero_le h2
    exact change_3 Pr g vd vk vw F w o n _ da dn dc rfl hin h (by omega) (by omega)
  · refine (change_x Pr g w kind off size _ da dn dc rfl hin k0 k2 k3).mono ?_
    rintro e w' ⟨rfl, rfl⟩
    have e : F.change kind off size bs = F := by unfold Fl.change; rw [if_neg k0, if_neg k2, if_neg k3]
    rw [e]
    exact ⟨rfl, vd, vk, vw, h.box _, Keeps.alloc hin _⟩

end Go.Proofs.YtkkliejgmgmebaaGreatDoor

namespace Go.Proofs.YtkkliejgmgmebaaGreatDoor
open Go.RowKit

/-- all that is there -/
abbrev Old (w : World) : Nat → Prop := fun k => k < w.heap.size

/-- a slice of one-cell elements that lies where nothing changes -/
def Rv (Pr : Nat → Prop) (w : World) (a : Option Addr) (n : Nat) (xs : List Value) : Prop :=
  xs.length = n ∧ (xs = [] ∨ ∃ b o, a = some ⟨b, o, none⟩ ∧ Pr b ∧ ∀ i x, xs[i]? = some x → w.cell? ⟨b, o + i, none⟩ = some x)

theorem Rv.keeps {Pr : Nat → Prop} {w w' : World} {a : Option Addr} {n : Nat} {xs : List Value} (h : Rv Pr w a n xs) (hk : Keeps Pr w w') : Rv Pr w' a n xs := by
  refine ⟨h.1, ?_⟩
  rcases h.2 with h0 | ⟨b, o, rfl, hp, hc⟩
  · exact .inl h0
  · exact .inr ⟨b, o, rfl, hp, fun i x hx => (hk.cell (a := ⟨b, o + i, none⟩) hp).trans (hc i x hx)⟩
theorem Rv.mono {Pr Pr' : Nat → Prop} {w : World} {a : Option Addr} {n : Nat} {xs : List Value} (h : Rv Pr w a n xs) (hp : ∀ k, Pr k → Pr' k) : Rv Pr' w a n xs := by
  refine ⟨h.1, ?_⟩
  rcases h.2 with h0 | ⟨b, o, rfl, hb, hc⟩
  · exact .inl h0
  · exact .inr ⟨b, o, rfl, hp b hb, hc⟩
theorem Rd.rv {Pr : Nat → Prop} {w : World} {a : Option Addr} {n : Nat} {bs : List UInt8} (h : Rd Pr w a n bs) : Rv Pr w a n (u8s bs) := by
  refine ⟨by rw [List.length_map]; exact h.1, ?_⟩
  rcases h.2 with rfl | ⟨b, o, rfl, hp, hc⟩
  · exact .inl rfl
  · refine .inr ⟨b, o, rfl, hp, fun i x hx => ?_⟩
    rw [List.getElem?_map] at hx
    cases hy : bs[i]? with
    | none => rw [hy] at hx; cases hx
    | some y =>
      rw [hy] at hx
      simp only [Option.map_some, Option.some.injEq] at hx
      rw [← hx]
      exact hc i y hy
theorem Rv.rd {Pr : Nat → Prop} {w : World} {a : Option Addr} {n : Nat} {bs : List UInt8} (h : Rv Pr w a n (u8s bs)) : Rd Pr w a n bs := by
  refine ⟨by rw [← h.1, List.length_map], ?_⟩
  rcases h.2 with h0 | ⟨b, o, rfl, hp, hc⟩
  · exact .inl (List.map_eq_nil_iff.1 h0)
  · exact .inr ⟨b, o, rfl, hp, fun i x hx => hc i _ (by rw [List.getElem?_map, hx]; rfl)⟩
/-- an owned row reads -/
theorem Row.rv {Pr : Nat → Prop} {w : World} {e : TypeId} {a : Option Addr} {n c : Nat} {xs : List Value} (h : Row Pr w e 1 (.slice a n c) n xs) : Rv (Old w) w a n xs := by
  refine ⟨by rw [h.1, Nat.mul_one], ?_⟩
  rcases Nat.eq_zero_or_pos n with h0 | h0
  · exact .inl (List.eq_nil_of_length_eq_zero (by rw [h.1, h0]))
  · obtain ⟨g, cap, e1, -, -, ⟨cur, hg⟩, hc, -⟩ := h.opened h0
    simp only [Value.slice.injEq] at e1
    obtain ⟨rfl, -, -⟩ := e1
    refine .inr ⟨g, 0, rfl, lt_of_heap hg, fun i x hx => ?_⟩
    have hi : i < n := by
      have := (List.getElem?_eq_some_iff.1 hx).1
      rw [h.1] at this; omega
    rw [Nat.zero_add, hc i hi, hx]

theorem below_keeps {w w' : World} (h : Below w.heap.size w w') : Keeps (Old w) w w' := Keeps.of_below h fun _ h => h
theorem below_alloc (w : World) (o : Obj) : Below w.heap.size w (w.alloc o) := (Below.refl _ _).alloc (Nat.le_refl _) _
theorem below_drewN (w : World) (n B : Nat) : Below B w (w.drewN n) := ⟨rfl, rfl, rfl, Nat.le_refl _, fun _ _ => rfl⟩

noncomputable def body11 : Code := ((Tryz.f8.body.bind firstLoop).getD .skip)

structure frm11p (s1 s2 s13 s14 : Value) (a : Act) : Prop where
  df : a.defers = []
  sz : a.tmps.size = 35
  h1 : a.tmps.getD 1 undef = s1
  h2 : a.tmps.getD 2 undef = s2
  h13 : a.tmps.getD 13 undef = s13
  h14 : a.tmps.getD 14 undef = s14
set_option maxRecDepth 100000 in
theorem frm11 {s1 s2 s13 s14 : Value} {a : Act} (h : frm11p s1 s2 s13 s14 a) : ∃ u : Nat → Value, a = ⟨#[u 0, s1, s2, u 3, u 4, u 5, u 6, u 7, u 8, u 9, u 10, u 11, u 12, s13, s14, u 15, u 16, u 17, u 18, u 19, u 20, u 21, u 22, u 23, u 24, u 25, u 26, u 27, u 28, u 29, u 30, u 31, u 32, u 33, u 34], []⟩ := by
  obtain ⟨F, df⟩ := a
  obtain ⟨rfl, hs, rfl, rfl, rfl, rfl⟩ := h
  refine ⟨fun i => F.getD i undef, ?_⟩
  have e := open_frame F
  rw [hs] at e
  exact congrArg (Act.mk · []) e

set_option maxRecDepth 100000 in
set_option maxHeartbeats 4000000 in
theorem same_loop (Q0 : Exit → Act → World → Prop) (B : Nat) (a b b' : Option Addr) (n c d d' d'' : Nat) (ab : Option Addr) (bs ds : List UInt8) (ks : List Bool) (w : World) (A : Act)
    (hB : w.heap[B]? = some (.cells #[.slice a n d, .slice b n d', .slice b' n d''] 34 (0, 0)))
    (h1 : Rd (Old w) w ab n bs) (h2 : Rd (Old w) w a n ds) (h3 : Rv (Old w) w b n (bls ks)) (hn : n ≤ 100000000) (hc : n ≤ c) (hd : n ≤ d) (hd' : n ≤ d')
    (heq : ∀ i : Nat, ks[i]? = some true → bs[i]? = ds[i]?)
    (hA : frm11p (.slice ab n c) (.pointer (some ⟨B, 0, none⟩)) (.int .i64 (n : Int)) (.int .i64 ((0 : Nat) : Int)) A)
    (hexit : ∀ a' w', frm11p (.slice ab n c) (.pointer (some ⟨B, 0, none⟩)) (.int .i64 (n : Int)) (.int .i64 (n : Int)) a' → Below w.heap.size w w' → Q0 (.exit 0) a' w') :
    Code.wp Tryz.prog (Code.loop body11) Q0 A w := by
  refine wp_loop_ghost (fun k a' w' => ∃ i : Nat, k = n - i ∧ i ≤ n ∧ frm11p (.slice ab n c) (.pointer (some ⟨B, 0, none⟩)) (.int .i64 (n : Int)) (.int .i64 (i : Int)) a' ∧ Below w.heap.size w w') n ⟨0, rfl, Nat.zero_le _, hA, Below.refl _ _⟩ ?_
  rintro k a' w' ⟨i, rfl, hi, ha, hb⟩
  obtain ⟨u, rfl⟩ := frm11 ha
  clear ha hA
  have hBw := lt_of_heap hB
  obtain ⟨b0, -⟩ := cells_at ((hb.block B hBw).trans hB)
  have x0 := b0 0
  have x1 := b0 1
  simp only [List.getElem?_toArray, List.getElem?_cons_succ, List.getElem?_cons_zero] at x0 x1
  have HE := Lib.hid hexit
  have HB := Lib.hid hb
  conv => arg 2; whnf
  by_cases hlt : i < n
  · obtain ⟨k0, hk0⟩ : ∃ k, ks[i]? = some k := ⟨_, List.getElem?_eq_getElem (by have := h3.1; rw [List.length_map] at this; omega)⟩
    obtain ⟨y, hy⟩ : ∃ y, ds[i]? = some y := ⟨_, List.getElem?_eq_getElem (by rw [h2.1]; exact hlt)⟩
    obtain ⟨z, hz⟩ : ∃ z, bs[i]? = some z := ⟨_, List.getElem?_eq_getElem (by rw [h1.1]; exact hlt)⟩
    have e := heq i
    rw [hk0, hy, hz] at e
    rcases h1.2 with h0 | ⟨p1, o1, rfl, hp1, hc1⟩
    · subst h0; cases hz
    rcases h2.2 with h0 | ⟨p2, o2, rfl, hp2, hc2⟩
    · subst h0; cases hy
    rcases h3.2 with h0 | ⟨p3, o3, rfl, hp3, hc3⟩
    · rw [List.map_eq_nil_iff] at h0; subst h0; cases hk0
    have f1 := (hb.cell (p := ⟨p1, o1 + i, none⟩) hp1).trans (hc1 i z hz)
    have f2 := (hb.cell (p := ⟨p2, o2 + i, none⟩) hp2).trans (hc2 i y hy)
    have f3 := (hb.cell (p := ⟨p3, o3 + i, none⟩) hp3).trans (hc3 i (.bool k0) (by rw [List.getElem?_map, hk0]; rfl))
    clear hc1 hc2 hc3 hk0 hy hz heq h1 h2 h3 hB hexit hb b0
    cases k0
    · clear e
      (repeat (first | go_values | go_skip | go_guarded | go_step | go_upon))
      go_quiet (fail)
      (repeat (first | go_values | go_skip | go_guarded | go_step | go_upon))
      exact ⟨n - (i + 1), by omega, i + 1, rfl, by omega, ⟨rfl, rfl, rfl, rfl, rfl, by go_num⟩, HB.out.trans (below_drewN _ _ _)⟩
    · simp only [true_imp_iff, Option.some.injEq] at e
      subst e
      (repeat (first | go_values | go_skip | go_guarded | go_step | go_upon))
      go_quiet (fail)
      (repeat (first | go_values | go_skip | go_guarded | go_step | go_upon))
      exact ⟨n - (i + 1), by omega, i + 1, rfl, by omega, ⟨rfl, rfl, rfl, rfl, rfl, by go_num⟩, HB.out.trans (below_drewN _ _ _)⟩
  · obtain rfl : i = n := by omega
    clear heq h1 h2 h3 hB hexit hb b0
    (repeat (first | go_values | go_skip | go_guarded | go_step | go_upon))
    exact HE.out _ _ ⟨rfl, rfl, rfl, rfl, rfl, rfl⟩ HB.out

set_option maxRecDepth 100000 in
set_option maxHeartbeats 4000000 in
theorem same_true (Pr : Nat → Prop) (w : World) (vd vk vw : Value) (F : Fl) (ab : Option Addr) (n c : Nat) (bs : List UInt8) (hv : FileVal Pr w vd vk vw F) (hr : Rd (Old w) w ab n bs) (hn : n = F.d.length) (hc : n ≤ c) (hl : n ≤ 100000000) (heq : ∀ i : Nat, F.k[i]? = some true → bs[i]? = F.d[i]?) :
    Calls Tryz.prog 8 #[.agg #[vd, vk, vw], .slice ab n c] w fun e w' => e = .returned (.bool true) ∧ Below w.heap.size w w' := by
  obtain ⟨a1, c1, rfl, g1, -⟩ := hv.rd.slice
  obtain ⟨a2, c2, rfl, g2, -⟩ := hv.rk.slice
  obtain ⟨a3, c3, rfl, g3, -⟩ := hv.rw.slice
  subst hn
  have hk := Keeps.alloc (Pr := Old w) (w := w) (fun _ h => h) (.cells #[.slice a1 F.d.length c1, .slice a2 F.d.length c2, .slice a3 F.d.length c3] 34)
  have hw : ∀ k, Old w k → Old (w.alloc (.cells #[.slice a1 F.d.length c1, .slice a2 F.d.length c2, .slice a3 F.d.length c3] 34)) k := fun k h => Nat.lt_of_lt_of_le h hk.size
  have H1 := Lib.hid ((hr.keeps hk).mono hw)
  have H2 := Lib.hid ((hv.rd.rv.keeps hk).mono hw).rd
  have H3 := Lib.hid ((hv.rk.rv.keeps hk).mono hw)
  have HQ := Lib.hid heq
  clear hv hr heq hk hw
  go_enter Tryz.func8, Tryz.ntmps8
  (repeat (first | go_values | go_skip | go_guarded | go_step | go_upon))
  refine same_loop _ w.heap.size a1 a2 a3 F.d.length c c1 c2 c3 ab bs F.d F.k _ _ (heap_alloc_new w _) H1.out H2.out H3.out hl hc g1 g2 HQ.out ⟨rfl, rfl, rfl, rfl, rfl, rfl⟩ ?_
  intro a' w' ha hb
  have HB := Lib.hid ((below_alloc w _).trans (hb.mono (by simp)))
  obtain ⟨u, rfl⟩ := frm11 ha
  clear hb ha
  simp only [Exit.inBlock, ↓reduceIte]
  (repeat (first | go_values | go_skip | go_guarded | go_step | go_upon))
  go_ret
  exact ⟨rfl, HB.out⟩

end Go.Proofs.YtkkliejgmgmebaaGreatDoor

namespace Go.Proofs.YtkkliejgmgmebaaGreatDoor
open Go.RowKit

/-- a piece of an owned row reads -/
theorem Row.piece {Pr : Nat → Prop} {w : World} {e : TypeId} {a : Option Addr} {l c : Nat} {xs : List Value} (h : Row Pr w e 1 (.slice a l c) l xs) (k m : Nat) (hm : k + m ≤ l) : Rv (Old w) w (if c = k then a else Option.map (fun x => x.add k) a) m ((xs.drop k).take m) := by
  refine ⟨by rw [List.length_take, List.length_drop, h.1]; omega, ?_⟩
  rcases Nat.eq_zero_or_pos m with rfl | h0
  · exact .inl (by simp)
  · obtain ⟨g, cap, e1, hc, -, ⟨cur, hg⟩, hcell, -⟩ := h.opened (by omega)
    simp only [Value.slice.injEq] at e1
    obtain ⟨rfl, -, rfl⟩ := e1
    rw [if_neg (by omega)]
    have ha : (⟨g, 0, none⟩ : Addr).add k = ⟨g, k, none⟩ := by unfold Addr.add; split <;> simp_all
    refine .inr ⟨g, k, by rw [Option.map_some, ha], lt_of_heap hg, fun i x hx => ?_⟩
    have hi : i < m := by
      have := (List.getElem?_eq_some_iff.1 hx).1
      rw [List.length_take] at this; omega
    rw [List.getElem?_take_of_lt hi, List.getElem?_drop] at hx
    rw [hcell (k + i) (by omega), hx]

theorem u8s_piece (bs : List UInt8) (k m : Nat) : ((u8s bs).drop k).take m = u8s ((bs.drop k).take m) := by rw [← List.map_drop, ← List.map_take]
theorem bls_piece (bs : List Bool) (k m : Nat) : ((bls bs).drop k).take m = bls ((bs.drop k).take m) := by rw [← List.map_drop, ← List.map_take]

set_option maxRecDepth 100000 in
set_option maxHeartbeats 4000000 in
theorem read_A (Pr : Nat → Prop) (g : FP) (vd vk vw : Value) (F : Fl) (w : World) (off n : Nat) (h : FileIs Pr w g vd vk vw F) (hl : F.d.length ≤ 100000000) (hon : off ≤ 1000000) (hn : n ≤ 1000000) (ho : off + n ≤ F.d.length) :
    Calls Tryz.prog 31 #[.pointer (some ⟨g.b, g.o, none⟩), .int .i64 (off : Int), .int .i64 (n : Int)] w fun e w' => ∃ a1 c1 a2 c2 q, e = .returned (.tuple #[.slice a1 n c1, .slice a2 n c2]) ∧ w' = w.drewN q ∧ n ≤ c1 ∧ n ≤ c2 ∧
      Rd (Old w) w a1 n ((F.d.drop off).take n) ∧ Rv (Old w) w a2 n (bls ((F.k.drop off).take n)) := by
  obtain ⟨c0, c1, -⟩ := h.cells
  obtain ⟨a, ca, rfl, hca, -⟩ := h.v.rd.slice
  obtain ⟨b, cb, rfl, hcb, -⟩ := h.v.rk.slice
  have H := Lib.hid h
  clear h
  go_enter Tryz.func31, Tryz.ntmps31
  (repeat (first | go_values | go_skip | go_guarded | go_step | go_upon))
  have x1 : (0 : Int) ≤ (off : Nat) := by omega
  have x2 : ((off : Nat) : Int) ≤ ((off + n : Nat) : Int) := by omega
  have x3 : ((off + n : Nat) : Int) ≤ ca := by omega
  have x4 : ((off + n : Nat) : Int) ≤ cb := by omega
  refine wp_blind ?_
  go_region
  simp only [onlyNormal]
  (repeat (first | go_values | go_skip | go_guarded | go_step | go_upon))
  go_ret2
  have r1 := H.out.v.rd.piece off n (by omega)
  have r2 := H.out.v.rk.piece off n (by omega)
  rw [u8s_piece] at r1
  rw [bls_piece] at r2
  exact ⟨_, _, _, _, 1, by rw [Nat.add_sub_cancel_left]; rfl, rfl, by omega, by omega, r1.rd, r2⟩

set_option maxRecDepth 100000 in
set_option maxHeartbeats 4000000 in
theorem read_B (Pr : Nat → Prop) (g : FP) (vd vk vw : Value) (F : Fl) (w : World) (off n : Nat) (h : FileIs Pr w g vd vk vw F) (hl : F.d.length ≤ 100000000) (hon : off ≤ 1000000) (hn : n ≤ 1000000) (ho : off ≤ F.d.length) (ho2 : F.d.length < off + n) :
    Calls Tryz.prog 31 #[.pointer (some ⟨g.b, g.o, none⟩), .int .i64 (off : Int), .int .i64 (n : Int)] w fun e w' => ∃ a1 c1 a2 c2 q, e = .returned (.tuple #[.slice a1 (F.d.length - off) c1, .slice a2 (F.d.length - off) c2]) ∧ w' = w.drewN q ∧ (F.d.length - off) ≤ c1 ∧ (F.d.length - off) ≤ c2 ∧
      Rd (Old w) w a1 (F.d.length - off) ((F.d.drop off).take (F.d.length - off)) ∧ Rv (Old w) w a2 (F.d.length - off) (bls ((F.k.drop off).take (F.d.length - off))) := by
  obtain ⟨c0, c1, -⟩ := h.cells
  obtain ⟨a, ca, rfl, hca, -⟩ := h.v.rd.slice
  obtain ⟨b, cb, rfl, hcb, -⟩ := h.v.rk.slice
  have H := Lib.hid h
  clear h
  go_enter Tryz.func31, Tryz.ntmps31
  (repeat (first | go_values | go_skip | go_guarded | go_step | go_upon))
  have x1 : (0 : Int) ≤ (off : Nat) := by omega
  have x2 : ((off : Nat) : Int) ≤ ((F.d.length : Nat) : Int) := by omega
  have x3 : ((F.d.length : Nat) : Int) ≤ ca := by omega
  have x4 : ((F.d.length : Nat) : Int) ≤ cb := by omega
  refine wp_blind ?_
  go_region
  simp only [onlyNormal]
  (repeat (first | go_values | go_skip | go_guarded | go_step | go_upon))
  go_ret2
  have r1 := H.out.v.rd.piece off (F.d.length - off) (by omega)
  have r2 := H.out.v.rk.piece off (F.d.length - off) (by omega)
  rw [u8s_piece] at r1
  rw [bls_piece] at r2
  exact ⟨_, _, _, _, 1, by rfl, rfl, by omega, by omega, r1.rd, r2⟩

set_option maxRecDepth 100000 in
set_option maxHeartbeats 4000000 in
theorem read_C (Pr : Nat → Prop) (g : FP) (vd vk vw : Value) (F : Fl) (w : World) (off n : Nat) (h : FileIs Pr w g vd vk vw F) (hl : F.d.length ≤ 100000000) (hon : off ≤ 1000000) (hn : n ≤ 1000000) (ho : F.d.length < off) :
    Calls Tryz.prog 31 #[.pointer (some ⟨g.b, g.o, none⟩), .int .i64 (off : Int), .int .i64 (n : Int)] w fun e w' => ∃ a1 c1 a2 c2 q, e = .returned (.tuple #[.slice a1 0 c1, .slice a2 0 c2]) ∧ w' = w.drewN q ∧ 0 ≤ c1 ∧ 0 ≤ c2 ∧
      Rd (Old w) w a1 0 ((F.d.drop F.d.length).take 0) ∧ Rv (Old w) w a2 0 (bls ((F.k.drop F.d.length).take 0)) := by
  obtain ⟨c0, c1, -⟩ := h.cells
  obtain ⟨a, ca, rfl, hca, -⟩ := h.v.rd.slice
  obtain ⟨b, cb, rfl, hcb, -⟩ := h.v.rk.slice
  have H := Lib.hid h
  clear h
  go_enter Tryz.func31, Tryz.ntmps31
  (repeat (first | go_values | go_skip | go_guarded | go_step | go_upon))
  have x1 : (0 : Int) ≤ (F.d.length : Nat) := by omega
  have x2 : ((F.d.length : Nat) : Int) ≤ ((F.d.length : Nat) : Int) := by omega
  have x3 : ((F.d.length : Nat) : Int) ≤ ca := by omega
  have x4 : ((F.d.length : Nat) : Int) ≤ cb := by omega
  refine wp_blind ?_
  go_region
  simp only [onlyNormal]
  (repeat (first | go_values | go_skip | go_guarded | go_step | go_upon))
  go_ret2
  have r1 := H.out.v.rd.piece F.d.length 0 (by omega)
  have r2 := H.out.v.rk.piece F.d.length 0 (by omega)
  rw [u8s_piece] at r1
  rw [bls_piece] at r2
  exact ⟨_, _, _, _, 1, by rfl, rfl, by omega, by omega, r1.rd, r2⟩


/-- the bytes from off on, at most n -/
theorem read_any (Pr : Nat → Prop) (g : FP) (vd vk vw : Value) (F : Fl) (w : World) (off n : Nat) (h : FileIs Pr w g vd vk vw F) (hl : F.d.length ≤ 100000000) (hon : off ≤ 1000000) (hn : n ≤ 1000000) :
    Calls Tryz.prog 31 #[.pointer (some ⟨g.b, g.o, none⟩), .int .i64 (off : Int), .int .i64 (n : Int)] w fun e w' => ∃ m a1 c1 a2 c2 q, e = .returned (.tuple #[.slice a1 m c1, .slice a2 m c2]) ∧ w' = w.drewN q ∧ m ≤ c1 ∧ m ≤ c2 ∧
      Rd (Old w) w a1 m ((F.d.drop off).take n) ∧ Rv (Old w) w a2 m (bls ((F.k.drop off).take n)) := by
  have hk := h.v.lk
  by_cases h1 : off + n ≤ F.d.length
  · exact (read_A Pr g vd vk vw F w off n h hl hon hn h1).mono fun e w' ⟨a1, c1, a2, c2, q, h⟩ => ⟨n, a1, c1, a2, c2, q, h⟩
  by_cases h2 : off ≤ F.d.length
  · refine (read_B Pr g vd vk vw F w off n h hl hon hn h2 (by omega)).mono fun e w' ⟨a1, c1, a2, c2, q, g1, g2, g3, g4, g5, g6⟩ => ⟨_, a1, c1, a2, c2, q, g1, g2, g3, g4, ?_, ?_⟩
    · rw [List.take_of_length_le (by rw [List.length_drop]; omega)] at g5 ⊢
      exact g5
    · rw [List.take_of_length_le (by rw [List.length_drop]; omega)] at g6 ⊢
      exact g6
  · refine (read_C Pr g vd vk vw F w off n h hl hon hn (by omega)).mono fun e w' ⟨a1, c1, a2, c2, q, g1, g2, g3, g4, g5, g6⟩ => ⟨_, a1, c1, a2, c2, q, g1, g2, g3, g4, ?_, ?_⟩
    · rw [List.drop_eq_nil_of_le (by omega), List.take_nil]
      rw [List.take_zero] at g5
      exact g5
    · rw [List.drop_eq_nil_of_le (by omega), List.take_nil]
      rw [List.take_zero] at g6
      exact g6

end Go.Proofs.YtkkliejgmgmebaaGreatDoor

namespace Go.Proofs.YtkkliejgmgmebaaGreatDoor
open Go.RowKit

noncomputable def body12 : Code := ((Tryz.f19.body.bind firstLoop).getD .skip)

structure frm12p (s4 s9 s10 s59 s60 : Value) (a : Act) : Prop where
  df : a.defers = []
  sz : a.tmps.size = 80
  h4 : a.tmps.getD 4 undef = s4
  h9 : a.tmps.getD 9 undef = s9
  h10 : a.tmps.getD 10 undef = s10
  h59 : a.tmps.getD 59 undef = s59
  h60 : a.tmps.getD 60 undef = s60
set_option maxRecDepth 100000 in
theorem frm12 {s4 s9 s10 s59 s60 : Value} {a : Act} (h : frm12p s4 s9 s10 s59 s60 a) : ∃ u : Nat → Value, a = ⟨#[u 0, u 1, u 2, u 3, s4, u 5, u 6, u 7, u 8, s9, s10, u 11, u 12, u 13, u 14, u 15, u 16, u 17, u 18, u 19, u 20, u 21, u 22, u 23, u 24, u 25, u 26, u 27, u 28, u 29, u 30, u 31, u 32, u 33, u 34, u 35, u 36, u 37, u 38, u 39, u 40, u 41, u 42, u 43, u 44, u 45, u 46, u 47, u 48, u 49, u 50, u 51, u 52, u 53, u 54, u 55, u 56, u 57, u 58, s59, s60, u 61, u 62, u 63, u 64, u 65, u 66, u 67, u 68, u 69, u 70, u 71, u 72, u 73, u 74, u 75, u 76, u 77, u 78, u 79], []⟩ := by
  obtain ⟨F, df⟩ := a
  obtain ⟨rfl, hs, rfl, rfl, rfl, rfl, rfl⟩ := h
  refine ⟨fun i => F.getD i undef, ?_⟩
  have e := open_frame F
  rw [hs] at e
  exact congrArg (Act.mk · []) e

set_option maxRecDepth 100000 in
set_option maxHeartbeats 4000000 in
theorem reads_loop (Q0 : Exit → Act → World → Prop) (B : Nat) (ab a b : Option Addr) (n c d d' : Nat) (z0 z2 z3 : Value) (bs ds : List UInt8) (ks : List Bool) (w : World) (A : Act)
    (hB : w.heap[B]? = some (.cells #[z0, .slice ab n c, z2, z3] 60 (0, 0)))
    (h1 : Rd (Old w) w ab n bs) (h2 : Rd (Old w) w a n ds) (h3 : Rv (Old w) w b n (bls ks)) (hn : n ≤ 100000000) (hc : n ≤ c) (hd : n ≤ d) (hd' : n ≤ d')
    (heq : ∀ i : Nat, ks[i]? = some true → bs[i]? = ds[i]?)
    (hA : frm12p (.pointer (some ⟨B, 0, none⟩)) (.slice a n d) (.slice b n d') (.int .i64 (n : Int)) (.int .i64 ((0 : Nat) : Int)) A)
    (hexit : ∀ a' w', frm12p (.pointer (some ⟨B, 0, none⟩)) (.slice a n d) (.slice b n d') (.int .i64 (n : Int)) (.int .i64 (n : Int)) a' → Below w.heap.size w w' → Q0 (.exit 0) a' w') :
    Code.wp Tryz.prog (Code.loop body12) Q0 A w := by
  refine wp_loop_ghost (fun k a' w' => ∃ i : Nat, k = n - i ∧ i ≤ n ∧ frm12p (.pointer (some ⟨B, 0, none⟩)) (.slice a n d) (.slice b n d') (.int .i64 (n : Int)) (.int .i64 (i : Int)) a' ∧ Below w.heap.size w w') n ⟨0, rfl, Nat.zero_le _, hA, Below.refl _ _⟩ ?_
  rintro k a' w' ⟨i, rfl, hi, ha, hb⟩
  obtain ⟨u, rfl⟩ := frm12 ha
  clear ha hA
  have hBw := lt_of_heap hB
  obtain ⟨b0, -⟩ := cells_at ((hb.block B hBw).trans hB)
  have x1 := b0 1
  simp only [List.getElem?_toArray, List.getElem?_cons_succ, List.getElem?_cons_zero] at x1
  have HE := Lib.hid hexit
  have HB := Lib.hid hb
  conv => arg 2; whnf
  by_cases hlt : i < n
  · obtain ⟨k0, hk0⟩ : ∃ k, ks[i]? = some k := ⟨_, List.getElem?_eq_getElem (by have := h3.1; rw [List.length_map] at this; omega)⟩
    obtain ⟨y, hy⟩ : ∃ y, ds[i]? = some y := ⟨_, List.getElem?_eq_getElem (by rw [h2.1]; exact hlt)⟩
    obtain ⟨z, hz⟩ : ∃ z, bs[i]? = some z := ⟨_, List.getElem?_eq_getElem (by rw [h1.1]; exact hlt)⟩
    have e := heq i
    rw [hk0, hy, hz] at e
    rcases h1.2 with h0 | ⟨p1, o1, rfl, hp1, hc1⟩
    · subst h0; cases hz
    rcases h2.2 with h0 | ⟨p2, o2, rfl, hp2, hc2⟩
    · subst h0; cases hy
    rcases h3.2 with h0 | ⟨p3, o3, rfl, hp3, hc3⟩
    · rw [List.map_eq_nil_iff] at h0; subst h0; cases hk0
    have f1 := (hb.cell (p := ⟨p1, o1 + i, none⟩) hp1).trans (hc1 i z hz)
    have f2 := (hb.cell (p := ⟨p2, o2 + i, none⟩) hp2).trans (hc2 i y hy)
    have f3 := (hb.cell (p := ⟨p3, o3 + i, none⟩) hp3).trans (hc3 i (.bool k0) (by rw [List.getElem?_map, hk0]; rfl))
    clear hc1 hc2 hc3 hk0 hy hz heq h1 h2 h3 hB hexit hb b0
    cases k0
    · clear e
      (repeat (first | go_values | go_skip | go_guarded | go_step | go_upon))
      go_quiet (fail)
      (repeat (first | go_values | go_skip | go_guarded | go_step | go_upon))
      exact ⟨n - (i + 1), by omega, i + 1, rfl, by omega, ⟨rfl, rfl, rfl, rfl, rfl, rfl, by go_num⟩, HB.out.trans (below_drewN _ _ _)⟩
    · simp only [true_imp_iff, Option.some.injEq] at e
      subst e
      (repeat (first | go_values | go_skip | go_guarded | go_step | go_upon))
      go_quiet (fail)
      (repeat (first | go_values | go_skip | go_guarded | go_step | go_upon))
      exact ⟨n - (i + 1), by omega, i + 1, rfl, by omega, ⟨rfl, rfl, rfl, rfl, rfl, rfl, by go_num⟩, HB.out.trans (below_drewN _ _ _)⟩
  · obtain rfl : i = n := by omega
    clear heq h1 h2 h3 hB hexit hb b0
    (repeat (first | go_values | go_skip | go_guarded | go_step | go_upon))
    exact HE.out _ _ ⟨rfl, rfl, rfl, rfl, rfl, rfl, rfl⟩ HB.out

set_option maxRecDepth 100000 in
set_option maxHeartbeats 4000000 in
theorem reads_true (Pr : Nat → Prop) (g : FP) (vd vk vw : Value) (F : Fl) (w : World) (ab : Option Addr) (m c off size : Nat) (rs kd : Int) (rerr : Int) (da : Option Addr) (dn dc : Nat) (strict : Bool) (bs : List UInt8) (h : FileIs Pr w g vd vk vw F) (hl : F.d.length ≤ 100000000) (ho : off ≤ 1000000) (hs : size ≤ 1000000)
    (hm : m = ((F.d.drop off).take size).length) (hr : Rd (Old w) w ab m bs) (hc : m ≤ c) (he : rerr = 0 ∨ rerr = 1) (hst : strict = true → (m < size ↔ rerr = 1)) (heq : ∀ i : Nat, ((F.k.drop off).take size)[i]? = some true → bs[i]? = ((F.d.drop off).take size)[i]?) :
    Calls Tryz.prog 19 #[.agg #[.int .i64 (m : Int), .slice ab m c, .int .i64 rs, .int .i64 rerr], .pointer (some ⟨g.b, g.o, none⟩), .agg #[.int .i64 kd, .int .i64 (off : Int), .int .i64 (size : Int), .slice da dn dc], .bool strict] w fun e w' => e = .returned (.bool true) ∧ Below w.heap.size w w' := by
  have hk1 := Keeps.alloc (Pr := Old w) (w := w) (fun _ h => h) (.cells #[.int .i64 (m : Int), .slice ab m c, .int .i64 rs, .int .i64 rerr] 60)
  have hb1 := below_alloc w (.cells #[.int .i64 (m : Int), .slice ab m c, .int .i64 rs, .int .i64 rerr] 60)
  have hb2 := below_alloc (w.alloc (.cells #[.int .i64 (m : Int), .slice ab m c, .int .i64 rs, .int .i64 rerr] 60)) (.cells #[.int .i64 kd, .int .i64 (off : Int), .int .i64 (size : Int), .slice da dn dc] 47)
  have B2 := Lib.hid (hb1.trans (hb2.mono (by simp)))
  have C1 := Lib.hid (heap_alloc2_old w (.cells #[.int .i64 (m : Int), .slice ab m c, .int .i64 rs, .int .i64 rerr] 60) (.cells #[.int .i64 kd, .int .i64 (off : Int), .int .i64 (size : Int), .slice da dn dc] 47))
  have C2 := Lib.hid (heap_alloc2_new w (.cells #[.int .i64 (m : Int), .slice ab m c, .int .i64 rs, .int .i64 rerr] 60) (.cells #[.int .i64 kd, .int .i64 (off : Int), .int .i64 (size : Int), .slice da dn dc] 47))
  have S2 := Lib.hid (show ((w.alloc (.cells #[.int .i64 (m : Int), .slice ab m c, .int .i64 rs, .int .i64 rerr] 60)).alloc (.cells #[.int .i64 kd, .int .i64 (off : Int), .int .i64 (size : Int), .slice da dn dc] 47)).heap.size = w.heap.size + 2 by simp)
  have H := Lib.hid ((h.box (.cells #[.int .i64 (m : Int), .slice ab m c, .int .i64 rs, .int .i64 rerr] 60)).box (.cells #[.int .i64 kd, .int .i64 (off : Int), .int .i64 (size : Int), .slice da dn dc] 47))
  have HR := Lib.hid hr
  have HQ := Lib.hid heq
  have HM := Lib.hid hm
  have hms : m ≤ size := by rw [hm, List.length_take]; omega
  clear h hr heq hm hk1 hb1 hb2
  have walk : ∀ (st : Bool) (er : Int) (sh : Bool), (er = 0 ∨ er = 1) → decide (m < size) = sh → (st = true → (sh = true ↔ er = 1)) → er = rerr → st = strict →
      Calls Tryz.prog 19 #[.agg #[.int .i64 (m : Int), .slice ab m c, .int .i64 rs, .int .i64 er], .pointer (some ⟨g.b, g.o, none⟩), .agg #[.int .i64 kd, .int .i64 (off : Int), .int .i64 (size : Int), .slice da dn dc], .bool st] w fun e w' => e = .returned (.bool true) ∧ Below w.heap.size w w' := by
    intro st er sh her hsh hst2 he1 he2
    subst he1
    subst he2
    go_enter Tryz.func19, Tryz.ntmps19
    have SH := Lib.hid hsh
    have HST := Lib.hid hst2
    have HER := Lib.hid her
    clear hst he hst2 hsh her
    (repeat (first | go_values | go_skip | go_guarded | go_step | go_upon))
    generalize ((w.alloc (.cells #[.int .i64 (m : Int), .slice ab m c, .int .i64 rs, .int .i64 er] 60)).alloc (.cells #[.int .i64 kd, .int .i64 (off : Int), .int .i64 (size : Int), .slice da dn dc] 47)) = W2 at *
    refine (read_any Pr g vd vk vw F W2 off size H.out hl ho hs).mono ?_
    rintro e w3 ⟨m', a1, c1, a2, c2, q, rfl, rfl, hmc1, hmc2, r1, r2⟩
    obtain rfl : m' = m := r1.1.symm.trans HM.out.symm
    have R1 := Lib.hid r1
    have R2 := Lib.hid r2
    clear r1 r2
    obtain ⟨b0, -⟩ := cells_at C1.out
    obtain ⟨b1, -⟩ := cells_at C2.out
    have x0 := b0 0
    have x1 := b0 1
    have x2 := b0 2
    have x3 := b0 3
    have y2 := b1 2
    simp only [List.getElem?_toArray, List.getElem?_cons_succ, List.getElem?_cons_zero] at x0 x1 x2 x3 y2
    clear b0 b1
    have fin : ∀ (Q0 : Exit → Act → World → Prop) (A : Act), frm12p (.pointer (some ⟨w.heap.size, 0, none⟩)) (.slice a1 m' c1) (.slice a2 m' c2) (.int .i64 (m' : Int)) (.int .i64 ((0 : Nat) : Int)) A →
        (∀ a' w', frm12p (.pointer (some ⟨w.heap.size, 0, none⟩)) (.slice a1 m' c1) (.slice a2 m' c2) (.int .i64 (m' : Int)) (.int .i64 (m' : Int)) a' → Below (W2.drewN q).heap.size (W2.drewN q) w' → Q0 (.exit 0) a' w') → Code.wp Tryz.prog (Code.loop body12) Q0 A (W2.drewN q) := by
      intro Q0 A hA hx
      have hkq := below_keeps (below_drewN W2 q W2.heap.size)
      have hold : ∀ k, Old w k → Old (W2.drewN q) k := fun k h => Nat.lt_of_lt_of_le (show k < w.heap.size from h) B2.out.size
      exact reads_loop Q0 w.heap.size ab a1 a2 m' c c1 c2 _ _ _ bs _ _ (W2.drewN q) A C1.out ((HR.out.keeps (below_keeps (B2.out.trans (below_drewN W2 q _)))).mono hold)
        (R1.out.keeps hkq) (R2.out.keeps hkq) (by omega) hc hmc1 hmc2 HQ.out hA hx
    have FIN := Lib.hid fin
    clear fin
    cases sh
    · have hsm : ¬ m' < size := of_decide_eq_false SH.out
      have hsm' : size ≤ m' := by omega
      clear hsm
      cases st
      · rcases HER.out with rfl | rfl
        · dsimp only
          (repeat (first | go_values | go_skip | go_guarded | go_step | go_upon))
          refine FIN.out _ _ ⟨rfl, rfl, rfl, rfl, rfl, rfl, rfl⟩ ?_
          intro a' w' ha hb
          have HB := Lib.hid ((B2.out.trans (below_drewN W2 q _)).trans (hb.mono (Nat.le_trans B2.out.size (Nat.le_refl _))))
          obtain ⟨u, rfl⟩ := frm12 ha
          clear hb ha
          simp only [Exit.inBlock, ↓reduceIte]
          (repeat (first | go_values | go_skip | go_guarded | go_step | go_upon))
          go_ret
          exact ⟨rfl, HB.out⟩
        · dsimp only
          (repeat (first | go_values | go_skip | go_guarded | go_step | go_upon))
          refine FIN.out _ _ ⟨rfl, rfl, rfl, rfl, rfl, rfl, rfl⟩ ?_
          intro a' w' ha hb
          have HB := Lib.hid ((B2.out.trans (below_drewN W2 q _)).trans (hb.mono (Nat.le_trans B2.out.size (Nat.le_refl _))))
          obtain ⟨u, rfl⟩ := frm12 ha
          clear hb ha
          simp only [Exit.inBlock, ↓reduceIte]
          (repeat (first | go_values | go_skip | go_guarded | go_step | go_upon))
          go_ret
          exact ⟨rfl, HB.out⟩
      · rcases HER.out with rfl | rfl
        · dsimp only
          (repeat (first | go_values | go_skip | go_guarded | go_step | go_upon))
          refine FIN.out _ _ ⟨rfl, rfl, rfl, rfl, rfl, rfl, rfl⟩ ?_
          intro a' w' ha hb
          have HB := Lib.hid ((B2.out.trans (below_drewN W2 q _)).trans (hb.mono (Nat.le_trans B2.out.size (Nat.le_refl _))))
          obtain ⟨u, rfl⟩ := frm12 ha
          clear hb ha
          simp only [Exit.inBlock, ↓reduceIte]
          (repeat (first | go_values | go_skip | go_guarded | go_step | go_upon))
          go_ret
          exact ⟨rfl, HB.out⟩
        · exact absurd ((HST.out rfl).2 rfl) (by decide)
    · have hsm : m' < size := of_decide_eq_true SH.out
      cases st
      · rcases HER.out with rfl | rfl
        · dsimp only
          (repeat (first | go_values | go_skip | go_guarded | go_step | go_upon))
          refine FIN.out _ _ ⟨rfl, rfl, rfl, rfl, rfl, rfl, rfl⟩ ?_
          intro a' w' ha hb
          have HB := Lib.hid ((B2.out.trans (below_drewN W2 q _)).trans (hb.mono (Nat.le_trans B2.out.size (Nat.le_refl _))))
          obtain ⟨u, rfl⟩ := frm12 ha
          clear hb ha
          simp only [Exit.inBlock, ↓reduceIte]
          (repeat (first | go_values | go_skip | go_guarded | go_step | go_upon))
          go_ret
          exact ⟨rfl, HB.out⟩
        · dsimp only
          (repeat (first | go_values | go_skip | go_guarded | go_step | go_upon))
          refine FIN.out _ _ ⟨rfl, rfl, rfl, rfl, rfl, rfl, rfl⟩ ?_
          intro a' w' ha hb
          have HB := Lib.hid ((B2.out.trans (below_drewN W2 q _)).trans (hb.mono (Nat.le_trans B2.out.size (Nat.le_refl _))))
          obtain ⟨u, rfl⟩ := frm12 ha
          clear hb ha
          simp only [Exit.inBlock, ↓reduceIte]
          (repeat (first | go_values | go_skip | go_guarded | go_step | go_upon))
          go_ret
          exact ⟨rfl, HB.out⟩
      · have := (HST.out rfl).1 rfl
        subst this
        dsimp only
        (repeat (first | go_values | go_skip | go_guarded | go_step | go_upon))
        refine FIN.out _ _ ⟨rfl, rfl, rfl, rfl, rfl, rfl, rfl⟩ ?_
        intro a' w' ha hb
        have HB := Lib.hid ((B2.out.trans (below_drewN W2 q _)).trans (hb.mono (Nat.le_trans B2.out.size (Nat.le_refl _))))
        obtain ⟨u, rfl⟩ := frm12 ha
        clear hb ha
        simp only [Exit.inBlock, ↓reduceIte]
        (repeat (first | go_values | go_skip | go_guarded | go_step | go_upon))
        go_ret
        exact ⟨rfl, HB.out⟩
  exact walk strict rerr _ he rfl (fun h => by rw [decide_eq_true_iff]; exact hst h) rfl rfl

end Go.Proofs.YtkkliejgmgmebaaGreatDoor
