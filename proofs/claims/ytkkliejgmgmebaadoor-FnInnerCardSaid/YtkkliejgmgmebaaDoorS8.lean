/-
  File.Same, where it says yes.
-/
import Derived.Test.YtkkliejgmgmebaaDoorS7
namespace Go.Proofs.YtkkliejgmgmebaaDoor
open Go.RowKit

/-- all that is there -/
abbrev Old (w : World) : Nat → Prop := fun k => k < w.heap.size

/-- a slice of one-cell elements that lies where nothing changes -/
def Rv (Pr : Nat → Prop) (w : World) (a : Option Addr) (n : Nat) (xs : List Value) : Prop :=
  xs.length = n ∧ (xs = [] ∨ ∃ b o, a = some ⟨b, o, none⟩ ∧ Pr b ∧ ∀ i x, xs[i]? = some x → w.cell? ⟨b, o + i, none⟩ = some x)

theorem Rv.keeps {Pr : Nat → Prop} {w w' : World} {a : Option Addr} {n : Nat} {xs : List Value} (h : Rv Pr w a n xs) (hk : Keeps Pr w w') : Rv Pr w' a n xs := by
  refine ⟨h.1, ?_⟩
  rcases h.2 with h0 | ⟨b, o, rfl, hp, hc⟩
  · exact .inl h0
  · exact .inr ⟨b, o, rfl, hp, fun i x hx => (hk.cell (a := ⟨b, o + i, none⟩) hp).trans (hc i x hx)⟩
theorem Rv.mono {Pr Pr' : Nat → Prop} {w : World} {a : Option Addr} {n : Nat} {xs : List Value} (h : Rv Pr w a n xs) (hp : ∀ k, Pr k → Pr' k) : Rv Pr' w a n xs := by
  refine ⟨h.1, ?_⟩
  rcases h.2 with h0 | ⟨b, o, rfl, hb, hc⟩
  · exact .inl h0
  · exact .inr ⟨b, o, rfl, hp b hb, hc⟩
theorem Rd.rv {Pr : Nat → Prop} {w : World} {a : Option Addr} {n : Nat} {bs : List UInt8} (h : Rd Pr w a n bs) : Rv Pr w a n (u8s bs) := by
  refine ⟨by rw [List.length_map]; exact h.1, ?_⟩
  rcases h.2 with rfl | ⟨b, o, rfl, hp, hc⟩
  · exact .inl rfl
  · refine .inr ⟨b, o, rfl, hp, fun i x hx => ?_⟩
    rw [List.getElem?_map] at hx
    cases hy : bs[i]? with
    | none => rw [hy] at hx; cases hx
    | some y =>
      rw [hy] at hx
      simp only [Option.map_some, Option.some.injEq] at hx
      rw [← hx]
      exact hc i y hy
theorem Rv.rd {Pr : Nat → Prop} {w : World} {a : Option Addr} {n : Nat} {bs : List UInt8} (h : Rv Pr w a n (u8s bs)) : Rd Pr w a n bs := by
  refine ⟨by rw [← h.1, List.length_map], ?_⟩
  rcases h.2 with h0 | ⟨b, o, rfl, hp, hc⟩
  · exact .inl (List.map_eq_nil_iff.1 h0)
  · exact .inr ⟨b, o, rfl, hp, fun i x hx => hc i _ (by rw [List.getElem?_map, hx]; rfl)⟩
/-- an owned row reads -/
theorem Row.rv {Pr : Nat → Prop} {w : World} {e : TypeId} {a : Option Addr} {n c : Nat} {xs : List Value} (h : Row Pr w e 1 (.slice a n c) n xs) : Rv (Old w) w a n xs := by
  refine ⟨by rw [h.1, Nat.mul_one], ?_⟩
  rcases Nat.eq_zero_or_pos n with h0 | h0
  · exact .inl (List.eq_nil_of_length_eq_zero (by rw [h.1, h0]))
  · obtain ⟨g, cap, e1, -, -, ⟨cur, hg⟩, hc, -⟩ := h.opened h0
    simp only [Value.slice.injEq] at e1
    obtain ⟨rfl, -, -⟩ := e1
    refine .inr ⟨g, 0, rfl, lt_of_heap hg, fun i x hx => ?_⟩
    have hi : i < n := by
      have := (List.getElem?_eq_some_iff.1 hx).1
      rw [h.1] at this; omega
    rw [Nat.zero_add, hc i hi, hx]

theorem below_keeps {w w' : World} (h : Below w.heap.size w w') : Keeps (Old w) w w' := Keeps.of_below h fun _ h => h
theorem below_alloc (w : World) (o : Obj) : Below w.heap.size w (w.alloc o) := (Below.refl _ _).alloc (Nat.le_refl _) _
theorem below_drewN (w : World) (n B : Nat) : Below B w (w.drewN n) := ⟨rfl, rfl, rfl, Nat.le_refl _, fun _ _ => rfl⟩

noncomputable def body11 : Code := ((Tryd.f11.body.bind firstLoop).getD .skip)

structure frm11p (s1 s2 s13 s14 : Value) (a : Act) : Prop where
  df : a.defers = []
  sz : a.tmps.size = 35
  h1 : a.tmps.getD 1 undef = s1
  h2 : a.tmps.getD 2 undef = s2
  h13 : a.tmps.getD 13 undef = s13
  h14 : a.tmps.getD 14 undef = s14
set_option maxRecDepth 100000 in
theorem frm11 {s1 s2 s13 s14 : Value} {a : Act} (h : frm11p s1 s2 s13 s14 a) : ∃ u : Nat → Value, a = ⟨#[u 0, s1, s2, u 3, u 4, u 5, u 6, u 7, u 8, u 9, u 10, u 11, u 12, s13, s14, u 15, u 16, u 17, u 18, u 19, u 20, u 21, u 22, u 23, u 24, u 25, u 26, u 27, u 28, u 29, u 30, u 31, u 32, u 33, u 34], []⟩ := by
  obtain ⟨F, df⟩ := a
  obtain ⟨rfl, hs, rfl, rfl, rfl, rfl⟩ := h
  refine ⟨fun i => F.getD i undef, ?_⟩
  have e := open_frame F
  rw [hs] at e
  exact congrArg (Act.mk · []) e

set_option maxRecDepth 100000 in
set_option maxHeartbeats 4000000 in
theorem same_loop (Q0 : Exit → Act → World → Prop) (B : Nat) (a b b' : Option Addr) (n c d d' d'' : Nat) (ab : Option Addr) (bs ds : List UInt8) (ks : List Bool) (w : World) (A : Act)
    (hB : w.heap[B]? = some (.cells #[.slice a n d, .slice b n d', .slice b' n d''] 27 (0, 0)))
    (h1 : Rd (Old w) w ab n bs) (h2 : Rd (Old w) w a n ds) (h3 : Rv (Old w) w b n (bls ks)) (hn : n ≤ 100000000) (hc : n ≤ c) (hd : n ≤ d) (hd' : n ≤ d')
    (heq : ∀ i : Nat, ks[i]? = some true → bs[i]? = ds[i]?)
    (hA : frm11p (.slice ab n c) (.pointer (some ⟨B, 0, none⟩)) (.int .i64 (n : Int)) (.int .i64 ((0 : Nat) : Int)) A)
    (hexit : ∀ a' w', frm11p (.slice ab n c) (.pointer (some ⟨B, 0, none⟩)) (.int .i64 (n : Int)) (.int .i64 (n : Int)) a' → Below w.heap.size w w' → Q0 (.exit 0) a' w') :
    Code.wp Tryd.prog (Code.loop body11) Q0 A w := by
  refine wp_loop_ghost (fun k a' w' => ∃ i : Nat, k = n - i ∧ i ≤ n ∧ frm11p (.slice ab n c) (.pointer (some ⟨B, 0, none⟩)) (.int .i64 (n : Int)) (.int .i64 (i : Int)) a' ∧ Below w.heap.size w w') n ⟨0, rfl, Nat.zero_le _, hA, Below.refl _ _⟩ ?_
  rintro k a' w' ⟨i, rfl, hi, ha, hb⟩
  obtain ⟨u, rfl⟩ := frm11 ha
  clear ha hA
  have hBw := lt_of_heap hB
  obtain ⟨b0, -⟩ := cells_at ((hb.block B hBw).trans hB)
  have x0 := b0 0
  have x1 := b0 1
  simp only [List.getElem?_toArray, List.getElem?_cons_succ, List.getElem?_cons_zero] at x0 x1
  have HE := Lib.hid hexit
  have HB := Lib.hid hb
  conv => arg 2; whnf
  by_cases hlt : i < n
  · obtain ⟨k0, hk0⟩ : ∃ k, ks[i]? = some k := ⟨_, List.getElem?_eq_getElem (by have := h3.1; rw [List.length_map] at this; omega)⟩
    obtain ⟨y, hy⟩ : ∃ y, ds[i]? = some y := ⟨_, List.getElem?_eq_getElem (by rw [h2.1]; exact hlt)⟩
    obtain ⟨z, hz⟩ : ∃ z, bs[i]? = some z := ⟨_, List.getElem?_eq_getElem (by rw [h1.1]; exact hlt)⟩
    have e := heq i
    rw [hk0, hy, hz] at e
    rcases h1.2 with h0 | ⟨p1, o1, rfl, hp1, hc1⟩
    · subst h0; cases hz
    rcases h2.2 with h0 | ⟨p2, o2, rfl, hp2, hc2⟩
    · subst h0; cases hy
    rcases h3.2 with h0 | ⟨p3, o3, rfl, hp3, hc3⟩
    · rw [List.map_eq_nil_iff] at h0; subst h0; cases hk0
    have f1 := (hb.cell (p := ⟨p1, o1 + i, none⟩) hp1).trans (hc1 i z hz)
    have f2 := (hb.cell (p := ⟨p2, o2 + i, none⟩) hp2).trans (hc2 i y hy)
    have f3 := (hb.cell (p := ⟨p3, o3 + i, none⟩) hp3).trans (hc3 i (.bool k0) (by rw [List.getElem?_map, hk0]; rfl))
    clear hc1 hc2 hc3 hk0 hy hz heq h1 h2 h3 hB hexit hb b0
    cases k0
    · clear e
      (repeat (first | go_values | go_skip | go_guarded | go_step | go_upon))
      go_quiet (fail)
      (repeat (first | go_values | go_skip | go_guarded | go_step | go_upon))
      exact ⟨n - (i + 1), by omega, i + 1, rfl, by omega, ⟨rfl, rfl, rfl, rfl, rfl, by go_num⟩, HB.out.trans (below_drewN _ _ _)⟩
    · simp only [true_imp_iff, Option.some.injEq] at e
      subst e
      (repeat (first | go_values | go_skip | go_guarded | go_step | go_upon))
      go_quiet (fail)
      (repeat (first | go_values | go_skip | go_guarded | go_step | go_upon))
      exact ⟨n - (i + 1), by omega, i + 1, rfl, by omega, ⟨rfl, rfl, rfl, rfl, rfl, by go_num⟩, HB.out.trans (below_drewN _ _ _)⟩
  · obtain rfl : i = n := by omega
    clear heq h1 h2 h3 hB hexit hb b0
    (repeat (first | go_values | go_skip | go_guarded | go_step | go_upon))
    exact HE.out _ _ ⟨rfl, rfl, rfl, rfl, rfl, rfl⟩ HB.out

set_option maxRecDepth 100000 in
set_option maxHeartbeats 4000000 in
theorem same_true (Pr : Nat → Prop) (w : World) (vd vk vw : Value) (F : Fl) (ab : Option Addr) (n c : Nat) (bs : List UInt8) (hv : FileVal Pr w vd vk vw F) (hr : Rd (Old w) w ab n bs) (hn : n = F.d.length) (hc : n ≤ c) (hl : n ≤ 100000000) (heq : ∀ i : Nat, F.k[i]? = some true → bs[i]? = F.d[i]?) :
    Calls Tryd.prog 11 #[.agg #[vd, vk, vw], .slice ab n c] w fun e w' => e = .returned (.bool true) ∧ Below w.heap.size w w' := by
  obtain ⟨a1, c1, rfl, g1, -⟩ := hv.rd.slice
  obtain ⟨a2, c2, rfl, g2, -⟩ := hv.rk.slice
  obtain ⟨a3, c3, rfl, g3, -⟩ := hv.rw.slice
  subst hn
  have hk := Keeps.alloc (Pr := Old w) (w := w) (fun _ h => h) (.cells #[.slice a1 F.d.length c1, .slice a2 F.d.length c2, .slice a3 F.d.length c3] 27)
  have hw : ∀ k, Old w k → Old (w.alloc (.cells #[.slice a1 F.d.length c1, .slice a2 F.d.length c2, .slice a3 F.d.length c3] 27)) k := fun k h => Nat.lt_of_lt_of_le h hk.size
  have H1 := Lib.hid ((hr.keeps hk).mono hw)
  have H2 := Lib.hid ((hv.rd.rv.keeps hk).mono hw).rd
  have H3 := Lib.hid ((hv.rk.rv.keeps hk).mono hw)
  have HQ := Lib.hid heq
  clear hv hr heq hk hw
  go_enter Tryd.func11, Tryd.ntmps11
  (repeat (first | go_values | go_skip | go_guarded | go_step | go_upon))
  refine same_loop _ w.heap.size a1 a2 a3 F.d.length c c1 c2 c3 ab bs F.d F.k _ _ (heap_alloc_new w _) H1.out H2.out H3.out hl hc g1 g2 HQ.out ⟨rfl, rfl, rfl, rfl, rfl, rfl⟩ ?_
  intro a' w' ha hb
  have HB := Lib.hid ((below_alloc w _).trans (hb.mono (by simp)))
  obtain ⟨u, rfl⟩ := frm11 ha
  clear hb ha
  simp only [Exit.inBlock, ↓reduceIte]
  (repeat (first | go_values | go_skip | go_guarded | go_step | go_upon))
  go_ret
  exact ⟨rfl, HB.out⟩

end Go.Proofs.YtkkliejgmgmebaaDoor
