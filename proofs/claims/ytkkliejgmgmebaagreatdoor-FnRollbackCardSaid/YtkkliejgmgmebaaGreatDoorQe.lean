/-
  Nested.Call: a change: what a state gets as it grows again isn't known.
-/
import Derived.Test.YtkkliejgmgmebaaGreatDoorZa
import Derived.Test.YtkkliejgmgmebaaGreatDoorQd
namespace Go.Proofs.YtkkliejgmgmebaaGreatDoor
open Go.RowKit

noncomputable def bodyN : Code := ((Tryz.f15.body.bind firstLoop).getD .skip)

structure frmNp (s0 s6 s8 s9 : Value) (a : Act) : Prop where
  df : a.defers = []
  sz : a.tmps.size = 173
  h0 : a.tmps.getD 0 undef = s0
  h6 : a.tmps.getD 6 undef = s6
  h8 : a.tmps.getD 8 undef = s8
  h9 : a.tmps.getD 9 undef = s9
set_option maxRecDepth 100000 in
theorem frmN {s0 s6 s8 s9 : Value} {a : Act} (h : frmNp s0 s6 s8 s9 a) : ∃ u : Nat → Value, a = ⟨#[s0, u 1, u 2, u 3, u 4, u 5, s6, u 7, s8, s9, u 10, u 11, u 12, u 13, u 14, u 15, u 16, u 17, u 18, u 19, u 20, u 21, u 22, u 23, u 24, u 25, u 26, u 27, u 28, u 29, u 30, u 31, u 32, u 33, u 34, u 35, u 36, u 37, u 38, u 39, u 40, u 41, u 42, u 43, u 44, u 45, u 46, u 47, u 48, u 49, u 50, u 51, u 52, u 53, u 54, u 55, u 56, u 57, u 58, u 59, u 60, u 61, u 62, u 63, u 64, u 65, u 66, u 67, u 68, u 69, u 70, u 71, u 72, u 73, u 74, u 75, u 76, u 77, u 78, u 79, u 80, u 81, u 82, u 83, u 84, u 85, u 86, u 87, u 88, u 89, u 90, u 91, u 92, u 93, u 94, u 95, u 96, u 97, u 98, u 99, u 100, u 101, u 102, u 103, u 104, u 105, u 106, u 107, u 108, u 109, u 110, u 111, u 112, u 113, u 114, u 115, u 116, u 117, u 118, u 119, u 120, u 121, u 122, u 123, u 124, u 125, u 126, u 127, u 128, u 129, u 130, u 131, u 132, u 133, u 134, u 135, u 136, u 137, u 138, u 139, u 140, u 141, u 142, u 143, u 144, u 145, u 146, u 147, u 148, u 149, u 150, u 151, u 152, u 153, u 154, u 155, u 156, u 157, u 158, u 159, u 160, u 161, u 162, u 163, u 164, u 165, u 166, u 167, u 168, u 169, u 170, u 171, u 172], []⟩ := by
  obtain ⟨F, df⟩ := a
  obtain ⟨rfl, hs, rfl, rfl, rfl, rfl⟩ := h
  refine ⟨fun i => F.getD i undef, ?_⟩
  have e := open_frame F
  rw [hs] at e
  exact congrArg (Act.mk · []) e

set_option maxRecDepth 100000 in
set_option maxHeartbeats 4000000 in
theorem unk_loop (Q0 : Exit → Act → World → Prop) (Pr : Nat → Prop) (g : FP) (gn : Nat) (vd vk vw : Value) (F : Fl) (w : World) (lo to most : Nat) (A : Act) (h : FileIs Pr w g vd vk vw F) (hfit : lo < min to most → min to most ≤ F.d.length) (hl : F.d.length ≤ 100000000) (hlo : lo ≤ 100000000) (_hto : to ≤ 100000000) (_hmo : most ≤ 100000000)
    (hgn : Pr gn) (hm : w.cell? ⟨gn, 2, none⟩ = some (.int .i64 (most : Int)))
    (hA : frmNp (.pointer (some ⟨gn, 0, none⟩)) (.pointer (some ⟨g.b, g.o, none⟩)) (.int .i64 (to : Int)) (.int .i64 (lo : Int)) A)
    (hexit : ∀ a' w', frmNp (.pointer (some ⟨gn, 0, none⟩)) (.pointer (some ⟨g.b, g.o, none⟩)) (.int .i64 (to : Int)) (.int .i64 ((lo + (min to most - lo) : Nat) : Int)) a' → FileIs Pr w' g vd vk vw (F.punch lo (min to most - lo)) → Keeps Pr w w' → Q0 (.exit 1) a' w') :
    Code.wp Tryz.prog (Code.loop bodyN) Q0 A w := by
  refine wp_loop_ghost (fun k a' w' => ∃ j : Nat, k = (min to most - lo) - j ∧ j ≤ min to most - lo ∧ frmNp (.pointer (some ⟨gn, 0, none⟩)) (.pointer (some ⟨g.b, g.o, none⟩)) (.int .i64 (to : Int)) (.int .i64 ((lo + j : Nat) : Int)) a' ∧
    FileIs Pr w' g vd vk vw (F.punch lo j) ∧ Keeps Pr w w') (min to most - lo) ⟨0, rfl, Nat.zero_le _, hA, by simpa [Fl.punch, splice_nil] using h, Keeps.refl _ _⟩ ?_
  rintro k a' w' ⟨j, rfl, hj, ha, hf, hk⟩
  obtain ⟨u, rfl⟩ := frmN ha
  clear ha hA
  have x2 := (hk.cell (a := ⟨gn, 2, none⟩) hgn).trans hm
  conv => arg 2; whnf
  have HE := Lib.hid hexit
  have HK := Lib.hid hk
  clear hexit hk h hm
  by_cases hlt : lo + j < min to most
  · have hle := hfit (by omega)
    obtain ⟨gk, ck, rfl, hck, -, -, kc, kf⟩ := hf.v.rk.opened (show 0 < F.d.length by omega)
    have hk0 := kc (lo + j) (show lo + j < F.d.length by omega)
    obtain ⟨y, hy⟩ : ∃ y, (bls (F.punch lo j).k)[lo + j]? = some y := ⟨_, List.getElem?_eq_getElem (by rw [List.length_map, hf.v.lk]; show lo + j < F.d.length; omega)⟩
    rw [hy] at hk0
    have kf0 := kf (lo + j)
    obtain ⟨-, c1, -⟩ := hf.cells
    replace c1 : w'.cell? ⟨g.b, g.o + 1, none⟩ = some (.slice (some ⟨gk, 0, none⟩) F.d.length ck) := c1
    have hck' : F.d.length ≤ ck := hck
    have hmi : min (to : Int) (most : Int) = ((min to most : Nat) : Int) := by omega
    have hlI : ((lo + j : Nat) : Int) < min (to : Int) (most : Int) := by omega
    have HF := Lib.hid hf
    clear hf kc kf hy hck
    (repeat (first | go_values | go_skip | go_guarded | go_step | go_upon))
    refine ⟨(min to most - lo) - (j + 1), by omega, j + 1, rfl, by omega, ⟨rfl, rfl, rfl, rfl, rfl, by go_num⟩, HF.out.punched (n := min to most - lo) (by omega) (by omega), HK.out.trans (Keeps.setCell (a := ⟨gk, lo + j, none⟩) (HF.out.v.rk.own (k := gk) rfl).2.1 _)⟩
  · have HF := Lib.hid hf
    obtain rfl : j = min to most - lo := by omega
    have hlI : ¬ ((lo + (min to most - lo) : Nat) : Int) < min (to : Int) (most : Int) := by omega
    clear hf
    (repeat (first | go_values | go_skip | go_guarded | go_step | go_upon))
    exact HE.out _ _ ⟨rfl, rfl, rfl, rfl, rfl, rfl⟩ HF.out HK.out

end Go.Proofs.YtkkliejgmgmebaaGreatDoor

namespace Go.Proofs.YtkkliejgmgmebaaGreatDoor
open Go.RowKit

theorem NIs.changed {Pr : Nat → Prop} {w w1 w3 : World} {gn gs cap : Nat} {X : List FV} {opn : Bool} {most : Nat} (hN : NIs (fun k => Pr k ∨ k = w.heap.size) w3 gn gs cap X opn most) (hk0 : Keeps Pr w w1) (hk : Keeps (fun k => Pr k ∨ k = w.heap.size) w1 w3) (M : Nat) {N : Ns} (hNs : N = ⟨X.map FV.F, opn, M⟩) {v : Value} (hv : v = .int .i64 (M : Int)) :
    NPost Pr w gn N true (.returned (.bool true)) (w3.drew.setCell ⟨gn, 2, none⟩ v) := by
  subst hNs hv
  have h1 := hN.drew.flags opn M (w' := w3.drew.setCell ⟨gn, 2, none⟩ (.int .i64 (M : Int))) (fun k hk => heap_set_other _ _ _ hk) (heap_set_same hN.drew.nest 2 _)
  exact ⟨rfl, gs, cap, X, h1.widen fun k _ hn hp => hn (.inl hp), rfl, (hk0.trans ((hk.mono fun k hp => .inl hp).trans (Keeps.drew _ _))).trans (Keeps.setCell (a := ⟨gn, 2, none⟩) (fun hp => hN.ng (.inl hp)) _)⟩

section
variable {Pr : Nat → Prop} {w : World} {gn gs cap : Nat} {X : List FV} {opn : Bool} {most : Nat}

set_option maxRecDepth 100000 in
set_option maxHeartbeats 4000000 in
theorem ncall_chg (kind off size : Int) (da : Option Addr) (dn dc n : Nat) (xs : List UInt8) (x : FV) (hin : Inw Pr w) (h : NIs Pr w gn gs cap X opn most) (hx : X.length = n + 2) (hl : X.length ≤ 1000) (hi : X[n + 1]? = some x) (hk : kind = 0 ∨ kind = 2) (hr : Rd Pr w da dn xs) (hdc : dn ≤ dc) (hlen : x.F.d.length ≤ 1000000) (hmost : most ≤ 1000000) (hfit : fitsB x.F.d.length kind off size dn = true) (hcl : (x.F.change kind off size xs).d.length ≤ 1000000) :
    Calls Tryz.prog 15 #[.pointer (some ⟨gn, 0, none⟩), .agg #[.int .i64 kind, .int .i64 off, .int .i64 size, .slice da dn dc]] w (NPost Pr w gn ⟨(X.map FV.F).set (n + 1) (chgN x.F most kind off size xs), opn, max most (chgN x.F most kind off size xs).d.length⟩ true) := by
  obtain ⟨x0, -⟩ := h.cell0
  have hlt := lt_of_heap h.nest
  have hcap := h.capn
  rw [hx] at x0 hcap
  -- the box of the call lies outside
  have hB : NIs (fun k => Pr k ∨ k = w.heap.size) (w.alloc (.cells #[.int .i64 kind, .int .i64 off, .int .i64 size, .slice da dn dc] 47)) gn gs cap X opn most := (h.widen (Pr' := fun k => Pr k ∨ k = w.heap.size) fun k hk hn hor => hor.elim hn fun e => by omega).kept fun _ hk _ => heap_alloc_lt w _ hk
  have hin1 : Inw (fun k => Pr k ∨ k = w.heap.size) (w.alloc (.cells #[.int .i64 kind, .int .i64 off, .int .i64 size, .slice da dn dc] 47)) := fun k hk => by
    rw [size_alloc']
    rcases hk with hk | hk
    · have := hin k hk; omega
    · omega
  obtain ⟨g, hgb, hgo, hf, hu⟩ := hB.file hi
  have hinN : Inw (PrN (fun k => Pr k ∨ k = w.heap.size) gn X (n + 1)) (w.alloc (.cells #[.int .i64 kind, .int .i64 off, .int .i64 size, .slice da dn dc] 47)) := fun k hk => by
    rcases hk with hk | hk | ⟨j, y, -, hy, ho⟩
    · exact hin1 k hk
    · rw [hk]; exact lt_of_heap hB.nest
    · exact (hB.own_lt hy ho).1
  have hrB : Rd (PrN (fun k => Pr k ∨ k = w.heap.size) gn X (n + 1)) (w.alloc (.cells #[.int .i64 kind, .int .i64 off, .int .i64 size, .slice da dn dc] 47)) da dn xs := (hr.keeps (Keeps.alloc hin _)).mono fun k hk => .inl (.inl hk)
  have hch := change_any _ g x.vd x.vk x.vw x.F _ kind off size da dn dc xs hinN hf hrB hdc (by omega) hfit
  rw [hgb, hgo] at hch
  have CH := Lib.hid hch
  obtain ⟨y0, -⟩ := hf.cells
  rw [hgb, hgo] at y0
  obtain ⟨ad, cd, ed, -⟩ := hf.v.rd.slice
  rw [ed] at y0
  obtain ⟨lenF, hlF⟩ : ∃ lenF, x.F.d.length = lenF := ⟨_, rfl⟩
  rw [hlF] at y0
  have HU := Lib.hid hu
  have HK0 := Lib.hid (Keeps.alloc hin (.cells #[.int .i64 kind, .int .i64 off, .int .i64 size, .slice da dn dc] 47))
  have HX := Lib.hid hx
  have HGB := Lib.hid hgb
  have HGO := Lib.hid hgo
  have HNG := Lib.hid h.ng
  have HC2 := Lib.hid hcl
  have HLF := Lib.hid hlF
  have c2 := hB.cell0.2.2.1
  have hsz : gs < w.heap.size := (h.row.own (k := gs) rfl).1
  have y0w : w.cell? ⟨gs, (n + 1) * 3, none⟩ = some (.slice ad lenF cd) := (World.cell?_alloc_past _ _ _ hsz).symm.trans y0
  have y0r : w.cell? ⟨gs, (n + 2 - 1) * 3, none⟩ = some (.slice ad lenF cd) := y0w
  have hlF2 : lenF ≤ 1000000 := by omega
  obtain ⟨F1, hF1⟩ : ∃ F1, x.F.change kind off size xs = F1 := ⟨_, rfl⟩
  have HF1 := Lib.hid hF1
  have HHI := Lib.hid hi
  have HNE := Lib.hid hB.nest
  have HF := Lib.hid hB
  clear h hch hB hin1 hf hu hinN hrB hr ed hgb hgo hcl hlF hF1 hi y0 hlen
  have hoff : kind = 0 → ∃ o : Nat, off = (o : Int) ∧ o ≤ 131072 := fun e => by
    subst e
    obtain ⟨h1, h2, -⟩ := fitsB_0 hfit
    obtain ⟨o, rfl⟩ := Int.eq_ofNat_of_zero_le h1
    exact ⟨o, rfl, by omega⟩
  have HOF := Lib.hid hoff
  clear hoff hfit
  rcases hk with rfl | rfl
  · obtain ⟨o, rfl, ho⟩ := HOF.out rfl
    go_enter Tryz.func15, Tryz.ntmps15
    (repeat (first | go_values | go_skip | go_guarded | go_step | go_upon))
    refine CH.out.mono ?_
    rintro e w2 ⟨rfl, vd', vk', vw', hf2, hk2⟩
    rw [HF1.out] at hf2
    have hB0 : (w.alloc (.cells #[.int .i64 0, .int .i64 (o : Int), .int .i64 size, .slice da dn dc] 47)).heap[w.heap.size]? = some (.cells #[.int .i64 0, .int .i64 (o : Int), .int .i64 size, .slice da dn dc] 47 (0, 0)) := heap_alloc_new w _
    obtain ⟨q0, -⟩ := cells_at ((hk2.block w.heap.size (.inl (.inr rfl))).trans hB0)
    have b0 := q0 0
    have b1 := q0 1
    simp only [List.getElem?_toArray, List.getElem?_cons_succ, List.getElem?_cons_zero] at b0 b1
    have m2 : w2.cell? ⟨gn, 2, none⟩ = some (.int .i64 (most : Int)) := (hk2.cell (a := ⟨gn, 2, none⟩) (.inr (.inl rfl))).trans c2
    obtain ⟨t0, -⟩ := hf2.cells
    obtain ⟨a1, c1, rfl, -⟩ := hf2.v.rd.slice
    rw [HGB.out, HGO.out] at t0
    have t0r : w2.cell? ⟨gs, (n + 2 - 1) * 3, none⟩ = some (.slice a1 F1.d.length c1) := t0
    have hF1l : F1.d.length ≤ 1000000 := by have := HC2.out; rw [HF1.out] at this; exact this
    have hF2 := Lib.hid hf2
    have HK2 := Lib.hid hk2
    have HM2 := Lib.hid m2
    have hmin : min ((F1.d.length : Nat) : Int) ((o : Nat) : Int) = ((min F1.d.length o : Nat) : Int) := by omega
    clear hf2 hk2 q0 hB0 CH
    dsimp only
    (repeat (first | go_values | go_skip | go_guarded | go_step | go_upon))
    refine unk_loop _ _ g gn _ _ _ F1 w2 lenF (min F1.d.length o) most _ hF2.out (fun _ => by omega) (by omega) (by omega) (by omega) (by omega) (.inr (.inl rfl)) HM2.out (by rw [HGB.out, HGO.out]; exact ⟨rfl, rfl, rfl, rfl, (by first | rfl | (show Value.int _ _ = Value.int _ _; congr 1; split <;> omega)), rfl⟩) ?_
    intro a' w3 ha hf3 hk3
    rw [HGB.out, HGO.out] at ha
    obtain ⟨u, rfl⟩ := frmN ha
    have m3 : w3.cell? ⟨gn, 2, none⟩ = some (.int .i64 (most : Int)) := (hk3.cell (a := ⟨gn, 2, none⟩) (.inr (.inl rfl))).trans HM2.out
    obtain ⟨s0, -⟩ := hf3.cells
    rw [HGB.out, HGO.out] at s0
    replace s0 : w3.cell? ⟨gs, (n + 1) * 3, none⟩ = some (.slice a1 F1.d.length c1) := s0
    have HN3 := Lib.hid (HU.out w3 _ _ _ _ hf3 (HK2.out.trans hk3))
    have f2 := HN3.out.cell0.2.2.2.2.2
    have HKK := Lib.hid ((HK2.out.trans hk3).mono (Pr' := fun k => Pr k ∨ k = w.heap.size) fun k hp => .inl hp)
    have hmax : max (most : Int) ((F1.d.length : Nat) : Int) = ((max most F1.d.length : Nat) : Int) := by omega
    have hG : chgN x.F most 0 (o : Int) size xs = F1.punch lenF (min (min F1.d.length o) most - lenF) := by
      unfold chgN
      rw [if_pos rfl, Int.toNat_natCast, HF1.out, HLF.out]
    have HG := Lib.hid hG
    have hgs3 := (HN3.out.row.own (k := gs) rfl).1
    have hgn3 := lt_of_heap HN3.out.nest
    have hne3 := HN3.out.ne
    clear ha hf3 hk3 hG t0 t0r b0 b1 m2 x0 y0w y0r c2 hlt hsz
    simp only [Exit.inBlock, ↓reduceIte]
    (repeat (first | go_values | go_skip | go_guarded | go_step | go_upon))
    go_region
    (repeat (first | go_values | go_skip | go_guarded | go_step | go_upon))
    go_ret
    refine HN3.out.changed HK0.out HKK.out (max most F1.d.length) ?_ (by congr 1; split <;> omega)
    rw [HG.out, List.map_set]
    rfl
  · clear HOF
    go_enter Tryz.func15, Tryz.ntmps15
    (repeat (first | go_values | go_skip | go_guarded | go_step | go_upon))
    refine CH.out.mono ?_
    rintro e w2 ⟨rfl, vd', vk', vw', hf2, hk2⟩
    rw [HF1.out] at hf2
    have hB0 : (w.alloc (.cells #[.int .i64 2, .int .i64 off, .int .i64 size, .slice da dn dc] 47)).heap[w.heap.size]? = some (.cells #[.int .i64 2, .int .i64 off, .int .i64 size, .slice da dn dc] 47 (0, 0)) := heap_alloc_new w _
    obtain ⟨q0, -⟩ := cells_at ((hk2.block w.heap.size (.inl (.inr rfl))).trans hB0)
    have b0 := q0 0
    have b1 := q0 1
    simp only [List.getElem?_toArray, List.getElem?_cons_succ, List.getElem?_cons_zero] at b0 b1
    have m2 : w2.cell? ⟨gn, 2, none⟩ = some (.int .i64 (most : Int)) := (hk2.cell (a := ⟨gn, 2, none⟩) (.inr (.inl rfl))).trans c2
    obtain ⟨t0, -⟩ := hf2.cells
    obtain ⟨a1, c1, rfl, -⟩ := hf2.v.rd.slice
    rw [HGB.out, HGO.out] at t0
    have t0r : w2.cell? ⟨gs, (n + 2 - 1) * 3, none⟩ = some (.slice a1 F1.d.length c1) := t0
    have hF1l : F1.d.length ≤ 1000000 := by have := HC2.out; rw [HF1.out] at this; exact this
    have hF2 := Lib.hid hf2
    have HK2 := Lib.hid hk2
    have HM2 := Lib.hid m2
    clear hf2 hk2 q0 hB0 CH
    dsimp only
    (repeat (first | go_values | go_skip | go_guarded | go_step | go_upon))
    refine unk_loop _ _ g gn _ _ _ F1 w2 lenF F1.d.length most _ hF2.out (fun _ => by omega) (by omega) (by omega) (by omega) (by omega) (.inr (.inl rfl)) HM2.out (by rw [HGB.out, HGO.out]; exact ⟨rfl, rfl, rfl, rfl, (by first | rfl | (show Value.int _ _ = Value.int _ _; congr 1; split <;> omega)), rfl⟩) ?_
    intro a' w3 ha hf3 hk3
    rw [HGB.out, HGO.out] at ha
    obtain ⟨u, rfl⟩ := frmN ha
    have m3 : w3.cell? ⟨gn, 2, none⟩ = some (.int .i64 (most : Int)) := (hk3.cell (a := ⟨gn, 2, none⟩) (.inr (.inl rfl))).trans HM2.out
    obtain ⟨s0, -⟩ := hf3.cells
    rw [HGB.out, HGO.out] at s0
    replace s0 : w3.cell? ⟨gs, (n + 1) * 3, none⟩ = some (.slice a1 F1.d.length c1) := s0
    have HN3 := Lib.hid (HU.out w3 _ _ _ _ hf3 (HK2.out.trans hk3))
    have f2 := HN3.out.cell0.2.2.2.2.2
    have HKK := Lib.hid ((HK2.out.trans hk3).mono (Pr' := fun k => Pr k ∨ k = w.heap.size) fun k hp => .inl hp)
    have hmax : max (most : Int) ((F1.d.length : Nat) : Int) = ((max most F1.d.length : Nat) : Int) := by omega
    have hG : chgN x.F most 2 off size xs = F1.punch lenF (min F1.d.length most - lenF) := by
      unfold chgN
      rw [if_neg (by decide), HF1.out, HLF.out]
    have HG := Lib.hid hG
    have hgs3 := (HN3.out.row.own (k := gs) rfl).1
    have hgn3 := lt_of_heap HN3.out.nest
    have hne3 := HN3.out.ne
    clear ha hf3 hk3 hG t0 t0r b0 b1 m2 x0 y0w y0r c2 hlt hsz
    simp only [Exit.inBlock, ↓reduceIte]
    (repeat (first | go_values | go_skip | go_guarded | go_step | go_upon))
    go_region
    (repeat (first | go_values | go_skip | go_guarded | go_step | go_upon))
    go_ret
    refine HN3.out.changed HK0.out HKK.out (max most F1.d.length) ?_ (by congr 1; split <;> omega)
    rw [HG.out, List.map_set]
    rfl
end

end Go.Proofs.YtkkliejgmgmebaaGreatDoor

namespace Go.Proofs.YtkkliejgmgmebaaGreatDoor
open Go.RowKit

/-- no state is long -/
def NOk (N : Ns) : Prop := N.most ≤ 262144 ∧ ∀ F ∈ N.Fs, F.d.length ≤ 262144

theorem chgN_len0 {F : Fl} (h : F.Even) (most : Nat) (off size : Int) (xs : List UInt8) : (chgN F most 0 off size xs).d.length = max F.d.length (off.toNat + xs.length) := by
  show (F.change 0 off size xs).d.length = _
  unfold Fl.change
  rw [if_pos rfl]
  exact Fl.write_d_len h _ _
theorem chgN_len2 (F : Fl) (most : Nat) (off size : Int) (xs : List UInt8) : (chgN F most 2 off size xs).d.length = size.toNat := by
  show (F.change 2 off size xs).d.length = _
  unfold Fl.change
  rw [if_neg (by decide), if_pos rfl]
  exact Fl.size_d_len _

theorem Ns.topIn {N : Ns} (h0 : 0 < N.Fs.length) : N.top ∈ N.Fs := by
  obtain ⟨F, hF⟩ : ∃ F, N.Fs[N.Fs.length - 1]? = some F := ⟨_, List.getElem?_eq_getElem (by omega)⟩
  rw [top_of (n := N.Fs.length - 1) (by omega) hF]
  exact List.mem_of_getElem? hF

theorem chg_le {F : Fl} {len dn : Nat} {kind off size : Int} {xs : List UInt8} (most : Nat) (hev : F.Even) (hl : F.d.length ≤ 262144) (hk : kind = 0 ∨ kind = 2) (hfit : fitsB len kind off size dn = true) (hd : xs.length = dn) : (chgN F most kind off size xs).d.length ≤ 262144 := by
  rcases hk with rfl | rfl
  · rw [chgN_len0 hev]
    obtain ⟨h1, h2, h3, h4⟩ := fitsB_0 hfit
    omega
  · rw [chgN_len2]
    obtain ⟨h1, h2⟩ := fitsB_2 hfit
    omega

theorem NOk.step {N : Ns} (h : NOk N) (h0 : 0 < N.Fs.length) {len dn : Nat} {kind off size : Int} {xs : List UInt8} (hev : N.top.Even) (hfit : fitsB len kind off size dn = true) (h3 : kind ≠ 3) (hd : xs.length = dn) : NOk (nstep N kind off size xs).1 := by
  have ht := h.2 _ (Ns.topIn h0)
  have hk := kind_cases hfit h3
  unfold nstep
  split
  · exact ⟨h.1, fun F hF => by
      simp only [List.mem_append, List.mem_singleton] at hF
      rcases hF with hF | rfl
      · exact h.2 F hF
      · exact ht⟩
  split
  · exact h
  split
  · exact h
  split
  · exact ⟨h.1, fun F hF => h.2 F (List.mem_of_mem_take hF)⟩
  split
  · split
    · exact ⟨h.1, fun F hF => by
        simp only [List.mem_singleton] at hF
        subst hF
        exact ht⟩
    · exact ⟨h.1, fun F hF => by
        simp only [List.mem_append, List.mem_singleton] at hF
        rcases hF with hF | rfl
        · exact h.2 F (List.mem_of_mem_take hF)
        · exact ht⟩
  · have hc := chg_le N.most hev ht (by omega) hfit hd
    exact ⟨Nat.max_le.2 ⟨h.1, hc⟩, fun F hF => by
      rcases List.mem_or_eq_of_mem_set hF with hF | rfl
      · exact h.2 F hF
      · exact hc⟩

section
variable {Pr : Nat → Prop} {w : World} {gn gs cap : Nat} {X : List FV} {opn : Bool} {most : Nat}

theorem NIs.even (h : NIs Pr w gn gs cap X opn most) {i : Nat} {x : FV} (hi : X[i]? = some x) : x.F.Even := ⟨(h.val i x hi).lk, (h.val i x hi).lr⟩

theorem ncall_any (kind off size : Int) (da : Option Addr) (dn dc len : Nat) (xs : List UInt8) (hin : Inw Pr w) (h : NIs Pr w gn gs cap X opn most) (h0 : 0 < X.length) (hl : X.length ≤ 1000) (hr : Rd Pr w da dn xs) (hdc : dn ≤ dc) (hok : NOk ⟨X.map FV.F, opn, most⟩) (hfit : fitsB len kind off size dn = true) (h3 : kind ≠ 3) :
    Calls Tryz.prog 15 #[.pointer (some ⟨gn, 0, none⟩), .agg #[.int .i64 kind, .int .i64 off, .int .i64 size, .slice da dn dc]] w (NPost Pr w gn (nstep ⟨X.map FV.F, opn, most⟩ kind off size xs).1 (nstep ⟨X.map FV.F, opn, most⟩ kind off size xs).2) := by
  have hml : (Ns.mk (X.map FV.F) opn most).Fs.length = X.length := by simp
  have hgl : ∀ (i : Nat) (x : FV), X[i]? = some x → (X.map FV.F)[i]? = some x.F := fun i x hx => by rw [List.getElem?_map, hx]; rfl
  have hb : ∀ (i : Nat) (x : FV), X[i]? = some x → x.F.d.length ≤ 262144 := fun i x hx => hok.2 _ (List.mem_of_getElem? (hgl i x hx))
  obtain ⟨n, hn⟩ : ∃ n, X.length = n + 1 := ⟨X.length - 1, by omega⟩
  obtain ⟨x, hx⟩ : ∃ x, X[n]? = some x := ⟨_, List.getElem?_eq_getElem (by omega)⟩
  have hnot : (kind = 0 ∨ kind = 2 ∨ kind = 6 ∨ kind = 7) → n = 0 → Calls Tryz.prog 15 #[.pointer (some ⟨gn, 0, none⟩), .agg #[.int .i64 kind, .int .i64 off, .int .i64 size, .slice da dn dc]] w (NPost Pr w gn (nstep ⟨X.map FV.F, opn, most⟩ kind off size xs).1 (nstep ⟨X.map FV.F, opn, most⟩ kind off size xs).2) := fun hk hn0 => by
    rw [nstep_not off size xs kind hk (by rw [hml]; omega)]
    exact ncall_not kind off size da dn dc hin h (by omega) hk
  have hchg : (kind = 0 ∨ kind = 2) → ∀ m, n = m + 1 → Calls Tryz.prog 15 #[.pointer (some ⟨gn, 0, none⟩), .agg #[.int .i64 kind, .int .i64 off, .int .i64 size, .slice da dn dc]] w (NPost Pr w gn (nstep ⟨X.map FV.F, opn, most⟩ kind off size xs).1 (nstep ⟨X.map FV.F, opn, most⟩ kind off size xs).2) := fun hk m hm => by
    subst hm
    rw [nstep_chg (N := ⟨X.map FV.F, opn, most⟩) off size xs kind hk (by rw [hml]; omega) (hgl _ _ hx)]
    have hc := chg_le most (h.even hx) (hb _ _ hx) hk hfit hr.1
    have hfit2 : fitsB x.F.d.length kind off size dn = true := by
      rcases hk with rfl | rfl <;> exact hfit
    exact ncall_chg (most := most) (opn := opn) kind off size da dn dc m xs x hin h (by omega) hl hx hk hr hdc (by have := hb _ _ hx; omega) (by have h5 : most ≤ 262144 := hok.1; omega) hfit2 (by have h5 : (x.F.change kind off size xs).d.length ≤ 262144 := hc; omega)
  rcases kind_cases hfit h3 with rfl | rfl | rfl | rfl | rfl | rfl | rfl
  · by_cases e : n = 0
    · exact hnot (.inl rfl) e
    · exact hchg (.inl rfl) (n - 1) (by omega)
  · rw [nstep_read off size xs 1 (.inl rfl)]
    exact ncall_read 1 off size da dn dc hin h h0 hl (.inl rfl)
  · by_cases e : n = 0
    · exact hnot (.inr (.inl rfl)) e
    · exact hchg (.inr rfl) (n - 1) (by omega)
  · rw [nstep_read off size xs 4 (.inr rfl)]
    exact ncall_read 4 off size da dn dc hin h h0 hl (.inr rfl)
  · rw [nstep_begin (N := ⟨X.map FV.F, opn, most⟩) off size xs (by rw [hml]; exact hn) (hgl _ _ hx)]
    exact ncall_begin off size da dn dc n x hin h hn hl hx (by have := hb _ _ hx; omega)
  · by_cases e : n = 0
    · exact hnot (.inr (.inr (.inl rfl))) e
    by_cases e1 : n = 1
    · subst e1
      match X, hn with
      | [x0, x1], _ =>
        rw [nstep_end1 (N := ⟨[x0, x1].map FV.F, opn, most⟩) off size xs x0.F x1.F rfl]
        exact ncall_end1 off size da dn dc x0 x1 hin h (by have := hb 0 x0 rfl; omega) (by have := hb 1 x1 rfl; omega)
    · obtain ⟨m, rfl⟩ : ∃ m, n = m + 2 := ⟨n - 2, by omega⟩
      rw [nstep_end2 (N := ⟨X.map FV.F, opn, most⟩) off size xs (by rw [hml]; omega) (hgl _ _ hx)]
      have := ncall_end2 off size da dn dc m x hin h (by omega) hl hx
      rw [List.map_append, List.map_take] at this
      exact this
  · by_cases e : n = 0
    · exact hnot (.inr (.inr (.inr rfl))) e
    · obtain ⟨m, rfl⟩ : ∃ m, n = m + 1 := ⟨n - 1, by omega⟩
      rw [nstep_rb (N := ⟨X.map FV.F, opn, most⟩) off size xs (by rw [hml]; omega)]
      have := ncall_rb off size da dn dc m hin h (by omega) hl
      rw [List.map_take] at this
      exact this
end

end Go.Proofs.YtkkliejgmgmebaaGreatDoor
