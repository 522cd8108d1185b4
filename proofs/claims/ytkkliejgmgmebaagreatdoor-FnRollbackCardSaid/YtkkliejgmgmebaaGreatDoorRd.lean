/-
  bitFiler.WriteAt.
-/
import Derived.Test.YtkkliejgmgmebaaGreatDoorRc
namespace Go.Proofs.YtkkliejgmgmebaaGreatDoor
open Go.RowKit

theorem max_anyI (w : World) (a b m : Int) (hm : m = max a b) : Calls Tryz.prog 101 #[.int .i64 a, .int .i64 b] w fun e w' => e = .returned (.int .i64 m) ∧ w' = w := by
  by_cases h : a < b
  · have e : m = b := by omega
    clear hm
    go_enter Tryz.func101, Tryz.ntmps101
    (repeat (first | go_values | go_skip | go_guarded | go_step | go_upon))
    go_ret
    exact ⟨by rw [e]; rfl, rfl⟩
  · have e : m = a := by omega
    have h' : b ≤ a := by omega
    clear hm
    go_enter Tryz.func101, Tryz.ntmps101
    (repeat (first | go_values | go_skip | go_guarded | go_step | go_upon))
    go_ret
    exact ⟨by rw [e]; rfl, rfl⟩

/-- level K has changed, no other one -/
structure Upd (K : Nat) (S S' : St) : Prop where
  gm : S'.gm = S.gm
  gz : S'.gz = S.gz
  v : S'.v = S.v
  fb : S'.fb = S.fb
  t : S'.t = S.t
  up : ∀ j, K < j → S'.L j = S.L j
  b : ∀ j, (S'.L j).b = (S.L j).b
  sz : ∀ j, j ≠ K → (S'.L j).size = (S.L j).size
  raw : ∀ j i, j < K → S'.raw j i = S.raw j i
  dirty : ∀ j p, j ≠ K → S'.dirty j p = S.dirty j p

theorem Upd.refl (K : Nat) (S : St) : Upd K S S := ⟨rfl, rfl, rfl, rfl, rfl, fun _ _ => rfl, fun _ => rfl, fun _ _ => rfl, fun _ _ _ => rfl, fun _ _ _ => rfl⟩
theorem Upd.trans {K : Nat} {S S' S'' : St} (h : Upd K S S') (h' : Upd K S' S'') : Upd K S S'' :=
  ⟨h'.gm.trans h.gm, h'.gz.trans h.gz, h'.v.trans h.v, h'.fb.trans h.fb, h'.t.trans h.t, fun j hj => (h'.up j hj).trans (h.up j hj), fun j => (h'.b j).trans (h.b j), fun j hj => (h'.sz j hj).trans (h.sz j hj),
    fun j i hj => (h'.raw j i hj).trans (h.raw j i hj), fun j p hj => (h'.dirty j p hj).trans (h.dirty j p hj)⟩
theorem Loads.upd {K : Nat} {S S' : St} (h : Loads K S S') : Upd K S S' := ⟨h.gm, h.gz, h.v, h.fb, h.t, h.up, h.b, fun j _ => h.sz j, fun j i _ => h.raw j i, fun j p _ => h.dirty j p⟩

theorem Upd.setPage (S : St) (k p : Nat) (y : Pg) : Upd (k + 1) S (S.setL (k + 1) ((S.L (k + 1)).set p y)) := by
  refine ⟨rfl, rfl, rfl, rfl, rfl, fun j hj => St.setL_other S _ (by omega), fun j => ?_, fun j hj => by rw [St.setL_other S _ hj], fun j i hj => (St.raw_below S (k + 1) _ j hj).1 i, fun j q hj => ?_⟩
  · by_cases e : j = k + 1
    · subst e; rw [St.setL_same]; rfl
    · rw [St.setL_other S _ e]
  · rw [St.setPage_dirty, if_neg (fun h => hj h.1)]

/-- level K has another size -/
def Lv.resize (L : Lv) (n : Nat) : Lv := { L with size := n }

theorem Upd.resize (S : St) (K n : Nat) : Upd K S (S.setL K ((S.L K).resize n)) := by
  refine ⟨rfl, rfl, rfl, rfl, rfl, fun j hj => St.setL_other S _ (by omega), fun j => ?_, fun j hj => by rw [St.setL_other S _ hj], fun j i hj => (St.raw_below S K _ j hj).1 i, fun j q hj => ?_⟩
  · by_cases e : j = K
    · subst e; rw [St.setL_same]; rfl
    · rw [St.setL_other S _ e]
  · unfold St.dirty
    rw [St.setL_other S _ hj]

theorem St.resize_raw (S : St) (k n i : Nat) : (S.setL (k + 1) ((S.L (k + 1)).resize n)).raw (k + 1) i = S.raw (k + 1) i := by
  obtain ⟨h1, h2⟩ := St.raw_below S (k + 1) ((S.L (k + 1)).resize n) k (by omega)
  unfold St.raw
  rw [St.setL_same, h1 i, h2]
  rfl

theorem St.resize_dirty (S : St) (K n p : Nat) : (S.setL K ((S.L K).resize n)).dirty K p = S.dirty K p := by
  unfold St.dirty
  rw [St.setL_same]
  rfl

theorem par_set (S : St) (K : Nat) (L : Lv) (hb : L.b = (S.L K).b) (j : Nat) : (S.setL K L).par j = S.par j := by
  cases j with
  | zero => rfl
  | succ j =>
    show Value.iface _ (.pointer (some ⟨((S.setL K L).L (j + 1)).b, 0, none⟩)) = .iface _ (.pointer (some ⟨(S.L (j + 1)).b, 0, none⟩))
    by_cases e : j + 1 = K
    · subst e; rw [St.setL_same, hb]
    · rw [St.setL_other S _ e]

theorem StIs.resize {tg : Nat → Nat × Nat} {w : World} {S : St} {k : Nat} (h : StIs tg w S) (hk : k < S.t) (n : Nat) (hn : n ≤ 299008) :
    StIs tg (w.setCell ⟨(S.L (k + 1)).b, 2, none⟩ (.int .i64 (n : Int))) (S.setL (k + 1) ((S.L (k + 1)).resize n)) := by
  have hl := h.lv k hk
  have keep : ∀ j, j ≠ (S.L (k + 1)).b → (w.setCell ⟨(S.L (k + 1)).b, 2, none⟩ (.int .i64 (n : Int))).heap[j]? = w.heap[j]? := fun j hj => heap_set_other _ _ _ hj
  have tb := hl.tb
  refine ⟨h.mem.retag (fun j h1 h2 => keep j (fun e => by subst e; omega)) (fun _ _ _ => rfl), fun j hj => ?_, h.fb, h.tt, h.pl.setL (fun p x hx => h.pl k hk p x hx)⟩
  rw [par_set S (k + 1) ((S.L (k + 1)).resize n) rfl]
  by_cases e : j = k
  · subst e
    rw [St.setL_same]
    obtain ⟨es, c, hmm⟩ := hl.map.isMap
    refine ⟨heap_set_same hl.cb 2 _, hl.tb, hl.tm, hl.map.kept (keep _ (fun e => by rw [e, hl.cb] at hmm; cases hmm)), fun q z hz => ?_, hn⟩
    obtain ⟨h1, h2, h3⟩ := hl.page q z hz
    refine ⟨h1.kept (keep _ fun e => ?_) (keep _ fun e => ?_), h2, h3⟩
    · obtain ⟨pz, hzc⟩ := h1.cell
      rw [e, hl.cb] at hzc
      simp at hzc
    · obtain ⟨-, -, cz, hzr⟩ := h1.row.own (k := z.r) rfl
      rw [e, hl.cb] at hzr
      simp at hzr
  · rw [St.setL_other S _ (show j + 1 ≠ k + 1 by omega)]
    exact (h.lv j hj).kept (fun i h1 h2 => keep i (fun e2 => by subst e2; omega)) (fun _ _ _ => rfl)

/-- level K has been written from off on, o bytes of xs -/
structure WrAt (tg0 : Nat → Nat × Nat) (w0 : World) (S0 : St) (K off : Nat) (xs : List UInt8) (o : Nat) (tg : Nat → Nat × Nat) (S : St) (w : World) : Prop where
  upd : Upd K S0 S
  raw : ∀ i, S.raw K i = if off ≤ i ∧ i < off + o then xs.getD (i - off) 0 else S0.raw K i
  dirty : ∀ p, S.dirty K p = true ↔ (S0.dirty K p = true ∨ ∃ i, off ≤ i ∧ i < off + o ∧ i / 4096 = p)
  tags : ∀ j, j < w0.heap.size → tg j = tg0 j
  st : StIs tg w S
  kp : Keeps (fun j => j < w0.heap.size ∧ K < (tg0 j).1) w0 w

theorem splice_getD' (l : List UInt8) (po : Nat) (A : List UInt8) (h : po + A.length ≤ l.length) (i : Nat) : (splice l po A).getD i 0 = if po ≤ i ∧ i < po + A.length then A.getD (i - po) 0 else l.getD i 0 := by
  rw [List.getD_eq_getElem?_getD, splice_get _ _ _ h]
  by_cases h1 : i < po
  · rw [if_pos h1, if_neg (by omega), List.getD_eq_getElem?_getD]
  · rw [if_neg h1]
    by_cases h2 : i < po + A.length
    · rw [if_pos h2, if_pos ⟨by omega, h2⟩, List.getD_eq_getElem?_getD]
    · rw [if_neg h2, if_neg (fun h => h2 h.2), List.getD_eq_getElem?_getD]

theorem getD_piece (xs : List UInt8) (o nc j : Nat) (hj : j < nc) : ((xs.drop o).take nc).getD j 0 = xs.getD (o + j) 0 := by
  rw [List.getD_eq_getElem?_getD, List.getElem?_take_of_lt hj, List.getElem?_drop, List.getD_eq_getElem?_getD]

/-- a slice's rest -/
theorem Rd.rest {Pr : Nat → Prop} {w : World} {a : Option Addr} {l c nc : Nat} {bs : List UInt8} (h : Rd Pr w a l bs) (hlc : l ≤ c) (hn : nc ≤ l) : Rd Pr w (if c = nc then a else Option.map (fun x => x.add nc) a) (l - nc) (bs.drop nc) := by
  refine ⟨by rw [List.length_drop, h.1], ?_⟩
  by_cases e : nc = l
  · exact .inl (by rw [List.drop_eq_nil_iff, h.1]; omega)
  · rw [if_neg (by omega)]
    rcases h.2 with h0 | ⟨b, o, rfl, hp, hc⟩
    · exact .inl (by rw [h0]; simp)
    · have ha : (⟨b, o, none⟩ : Addr).add nc = ⟨b, o + nc, none⟩ := by unfold Addr.add; split <;> simp_all
      refine .inr ⟨b, o + nc, by rw [Option.map_some, ha], hp, fun i x hx => ?_⟩
      rw [List.getElem?_drop] at hx
      rw [← hc (nc + i) x hx]
      congr 2
      omega

/-- bytes copied into a page -/
theorem page_fill {w : World} {x : Pg} {Pq : Nat → Prop} {a : Option Addr} {l c po nc : Nat} {bs : List UInt8} (hx : PageAt w x) (hr : Rd Pq w a l bs) (hpo : po < 4096) (hl : 0 < l) (hnc : min l (4096 - po) = nc) :
    ∃ w2, (Builtin.copy_ #[22, 22] 3 #[.slice (some ⟨x.r, po, none⟩) (4096 - po) (4096 - po), .slice a l c]).run Tryz.prog w = .ok (goInt ((nc : Nat) : Int)) w2 ∧
      PageAt w2 { x with bs := splice x.bs po (bs.take nc) } ∧ w.grownBy w2 (some x.r) := by
  obtain ⟨w2, hrun, hr2, hg2⟩ := run_copy_rv (P := Tryz.prog) hx.row 22 22 3 Tryz.underlying22 (by kernel_rfl) (off := po) (dl := 4096 - po) (dcap := 4096 - po) (by omega) a l c (u8s bs) hr.rv (one_u8s _) (by omega)
  rw [hnc] at hrun hr2
  obtain ⟨pd, hc⟩ := hx.cell
  refine ⟨w2, hrun, ⟨⟨pd, (hg2.block x.g (lt_of_heap hc) fun e => ?_).trans hc⟩, ?_⟩, hg2⟩
  · have e' : x.g = x.r := Option.some.inj e
    obtain ⟨-, -, cur, hxr⟩ := hx.row.own (k := x.r) rfl
    rw [← e', hc] at hxr
    simp at hxr
  · show Row NoP w2 5 1 _ 4096 (u8s (splice x.bs po (bs.take nc)))
    rw [u8s_splice, u8s_take]
    exact hr2

/-- .. which is marked as written -/
theorem PageAt.mark {w : World} {x : Pg} (h : PageAt w x) (d : Bool) : PageAt (w.setCell ⟨x.g, 4, none⟩ (.bool d)) { x with dirty := d } := by
  obtain ⟨pd, hc⟩ := h.cell
  exact ⟨⟨pd, heap_set_same hc 4 _⟩, h.row.setOther hc (by decide) 4 _⟩

end Go.Proofs.YtkkliejgmgmebaaGreatDoor

namespace Go.Proofs.YtkkliejgmgmebaaGreatDoor
open Go.RowKit

noncomputable def body81 : Code := ((Tryz.f81.body.bind firstLoop).getD .skip)

structure frl81p (s0 s1 s2 s6 s7 s8 s9 s10 s11 : Value) (a : Act) : Prop where
  df : a.defers = []
  sz : a.tmps.size = 114
  h0 : a.tmps.getD 0 undef = s0
  h1 : a.tmps.getD 1 undef = s1
  h2 : a.tmps.getD 2 undef = s2
  h6 : a.tmps.getD 6 undef = s6
  h7 : a.tmps.getD 7 undef = s7
  h8 : a.tmps.getD 8 undef = s8
  h9 : a.tmps.getD 9 undef = s9
  h10 : a.tmps.getD 10 undef = s10
  h11 : a.tmps.getD 11 undef = s11
set_option maxRecDepth 100000 in
theorem frl81 {s0 s1 s2 s6 s7 s8 s9 s10 s11 : Value} {a : Act} (h : frl81p s0 s1 s2 s6 s7 s8 s9 s10 s11 a) : ∃ u : Nat → Value, a = ⟨#[s0, s1, s2, u 3, u 4, u 5, s6, s7, s8, s9, s10, s11, u 12, u 13, u 14, u 15, u 16, u 17, u 18, u 19, u 20, u 21, u 22, u 23, u 24, u 25, u 26, u 27, u 28, u 29, u 30, u 31, u 32, u 33, u 34, u 35, u 36, u 37, u 38, u 39, u 40, u 41, u 42, u 43, u 44, u 45, u 46, u 47, u 48, u 49, u 50, u 51, u 52, u 53, u 54, u 55, u 56, u 57, u 58, u 59, u 60, u 61, u 62, u 63, u 64, u 65, u 66, u 67, u 68, u 69, u 70, u 71, u 72, u 73, u 74, u 75, u 76, u 77, u 78, u 79, u 80, u 81, u 82, u 83, u 84, u 85, u 86, u 87, u 88, u 89, u 90, u 91, u 92, u 93, u 94, u 95, u 96, u 97, u 98, u 99, u 100, u 101, u 102, u 103, u 104, u 105, u 106, u 107, u 108, u 109, u 110, u 111, u 112, u 113], []⟩ := by
  obtain ⟨F, df⟩ := a
  obtain ⟨rfl, hs, rfl, rfl, rfl, rfl, rfl, rfl, rfl, rfl, rfl⟩ := h
  refine ⟨fun i => F.getD i undef, ?_⟩
  have e := open_frame F
  rw [hs] at e
  exact congrArg (Act.mk · []) e

structure frx81p (s0 s6 s7 s8 : Value) (a : Act) : Prop where
  df : a.defers = []
  sz : a.tmps.size = 114
  h0 : a.tmps.getD 0 undef = s0
  h6 : a.tmps.getD 6 undef = s6
  h7 : a.tmps.getD 7 undef = s7
  h8 : a.tmps.getD 8 undef = s8
set_option maxRecDepth 100000 in
theorem frx81 {s0 s6 s7 s8 : Value} {a : Act} (h : frx81p s0 s6 s7 s8 a) : ∃ u : Nat → Value, a = ⟨#[s0, u 1, u 2, u 3, u 4, u 5, s6, s7, s8, u 9, u 10, u 11, u 12, u 13, u 14, u 15, u 16, u 17, u 18, u 19, u 20, u 21, u 22, u 23, u 24, u 25, u 26, u 27, u 28, u 29, u 30, u 31, u 32, u 33, u 34, u 35, u 36, u 37, u 38, u 39, u 40, u 41, u 42, u 43, u 44, u 45, u 46, u 47, u 48, u 49, u 50, u 51, u 52, u 53, u 54, u 55, u 56, u 57, u 58, u 59, u 60, u 61, u 62, u 63, u 64, u 65, u 66, u 67, u 68, u 69, u 70, u 71, u 72, u 73, u 74, u 75, u 76, u 77, u 78, u 79, u 80, u 81, u 82, u 83, u 84, u 85, u 86, u 87, u 88, u 89, u 90, u 91, u 92, u 93, u 94, u 95, u 96, u 97, u 98, u 99, u 100, u 101, u 102, u 103, u 104, u 105, u 106, u 107, u 108, u 109, u 110, u 111, u 112, u 113], []⟩ := by
  obtain ⟨F, df⟩ := a
  obtain ⟨rfl, hs, rfl, rfl, rfl, rfl⟩ := h
  refine ⟨fun i => F.getD i undef, ?_⟩
  have e := open_frame F
  rw [hs] at e
  exact congrArg (Act.mk · []) e

set_option maxRecDepth 100000 in
set_option maxHeartbeats 8000000 in
theorem bwrite_loop (Q0 : Exit → Act → World → Prop) (tg0 : Nat → Nat × Nat) (w0 : World) (S0 : St) (k n c off b : Nat) (a : Option Addr) (xs : List UInt8) (va vb : Addr) (A : Act)
    (hS : StIs tg0 w0 S0) (hk : k < S0.t) (hV : VarsO tg0 w0 va vb) (hb : (S0.L (k + 1)).b = b)
    (hr : Rd (fun j => j < w0.heap.size ∧ k + 1 < (tg0 j).1) w0 a n xs) (hnc0 : n ≤ c) (hn : n ≤ 1000000) (ho : off + n ≤ 299008)
    (hA : frl81p (.pointer (some ⟨b, 0, none⟩)) (.slice a n c) (.int .i64 (off : Int)) (.int .i64 (n : Int)) .nilIface (.int .i64 (off : Int)) (.int .i64 ((off / 4096 : Nat) : Int)) (.int .i64 ((off % 4096 : Nat) : Int)) (.int .i64 (n : Int)) A)
    (hexit : ∀ (a' : Act) w' tg S, frx81p (.pointer (some ⟨b, 0, none⟩)) (.int .i64 (n : Int)) .nilIface (.int .i64 (off : Int)) a' → WrAt tg0 w0 S0 (k + 1) off xs n tg S w' → (∀ j, (S.L j).size = (S0.L j).size) → Q0 (.exit 0) a' w') :
    Code.wp Tryz.prog (Code.loop body81) Q0 A w0 := by
  have q1 := eql_ptr_nil
  have q2 := eql_nil_ptr
  have q3 := neq_nil_iface
  refine wp_loop_ghost (fun j a' w' => ∃ (o : Nat) (tg : Nat → Nat × Nat) (S : St) (a1 : Option Addr) (c1 : Nat) (s9 s10 : Value), j = n - o ∧ o ≤ n ∧
    frl81p (.pointer (some ⟨b, 0, none⟩)) (.slice a1 (n - o) c1) (.int .i64 ((off + o : Nat) : Int)) (.int .i64 (n : Int)) .nilIface (.int .i64 (off : Int)) s9 s10 (.int .i64 ((n - o : Nat) : Int)) a' ∧
    (o < n → s9 = .int .i64 (((off + o) / 4096 : Nat) : Int) ∧ s10 = .int .i64 (((off + o) % 4096 : Nat) : Int)) ∧ n - o ≤ c1 ∧ Rd (fun j => j < w0.heap.size ∧ k + 1 < (tg0 j).1) w' a1 (n - o) (xs.drop o) ∧
    WrAt tg0 w0 S0 (k + 1) off xs o tg S w' ∧ ∀ j, (S.L j).size = (S0.L j).size) n
    ⟨0, tg0, S0, a, c, _, _, rfl, Nat.zero_le _, hA, fun _ => ⟨rfl, rfl⟩, hnc0, by simpa using hr, ⟨Upd.refl _ _, fun i => by rw [if_neg (by omega)], fun p => ⟨.inl, fun h => h.elim id fun ⟨i, h1, h2, _⟩ => by omega⟩, fun _ _ => rfl, hS, Keeps.refl _ _⟩, fun _ => rfl⟩ ?_
  rintro j a' w' ⟨o, tg, S, a1, c1, s9, s10, rfl, ho', ha, hlt, hlc, hrd, hR, hsz0⟩
  obtain ⟨u, rfl⟩ := frl81 ha
  clear ha hA
  conv => arg 2; whnf
  have HE := Lib.hid hexit
  have HRR := Lib.hid hR
  have HSZ := Lib.hid hsz0
  by_cases hod : o < n
  · obtain ⟨rfl, rfl⟩ := hlt hod
    obtain ⟨p, hp⟩ : ∃ p, (off + o) / 4096 = p := ⟨_, rfl⟩
    obtain ⟨po, hpo⟩ : ∃ po, (off + o) % 4096 = po := ⟨_, rfl⟩
    obtain ⟨l, hll⟩ : ∃ l, n - o = l := ⟨_, rfl⟩
    obtain ⟨of, hof⟩ : ∃ of, off + o = of := ⟨_, rfl⟩
    have hxl : xs.length = n := hr.1
    rw [hll] at hlc hrd ⊢
    rw [hof] at hp hpo ⊢
    rw [hp, hpo]
    have hkt : k < S.t := by rw [hR.upd.t]; exact hk
    have hl := hR.st.lv k hkt
    have hb' : (S.L (k + 1)).b = b := (hR.upd.b _).trans hb
    obtain ⟨m, hm⟩ : ∃ m, (S.L (k + 1)).m = m := ⟨_, rfl⟩
    obtain ⟨c0, cf⟩ := cells_at hl.cb
    have x0 := c0 0
    have x1 := c0 1
    simp only [List.getElem?_toArray, List.getElem?_cons_succ, List.getElem?_cons_zero] at x0 x1
    rw [hb'] at x0 x1
    rw [hm] at x1
    rw [St.par_eq] at x0
    have hp1000 : p < 73 := by omega
    have hlk := (hl.map.look (p := p) (by omega)).1
    rw [hm] at hlk
    have hr0 : ¬ (l : Int) = 0 := by omega
    have hr0' : ¬ l = 0 := by omega
    obtain ⟨nc, hnc⟩ : ∃ nc, min l (4096 - po) = nc := ⟨_, rfl⟩
    have hpo4 : po < 4096 := by omega
    have hVw := hV.keeps (hR.kp.mono fun j (hj : j < w0.heap.size ∧ 1000 ≤ (tg0 j).1) => ⟨hj.1, by have := hS.tt; omega⟩)
    have hVO : VarsO tg w' va vb := hVw.mono fun j hj => ⟨Nat.lt_of_lt_of_le hj.1 hR.kp.size, by rw [hR.tags j hj.1]; exact hj.2⟩
    -- behind the page's being there: the copy, the mark, and the rest of the round
    have tail : ∀ (tg1 : Nat → Nat × Nat) (S1 : St) (w1 : World) (x : Pg), Loads (k + 1) S S1 → (∀ j, j < w'.heap.size → tg1 j = tg j) → StIs tg1 w1 S1 → Keeps (fun j => j < w'.heap.size ∧ k + 1 < (tg j).1) w' w1 → (S1.L (k + 1)).f p = some x →
        ∃ w2 S2, (Builtin.copy_ #[22, 22] 3 #[.slice (some ⟨x.r, po, none⟩) (4096 - po) (4096 - po), .slice a1 l c1]).run Tryz.prog w1 = .ok (goInt ((nc : Nat) : Int)) w2 ∧ w1.cell? ⟨x.g, 3, none⟩ = some (.slice (some ⟨x.r, 0, none⟩) 4096 4096) ∧
          w2.cell? ⟨x.g, 4, none⟩ = some (.bool x.dirty) ∧ w2.frozen? ⟨x.g, 4, none⟩ = false ∧
          Rd (fun j => j < w0.heap.size ∧ k + 1 < (tg0 j).1) (w2.setCell ⟨x.g, 4, none⟩ (.bool true)) (if c1 = nc then a1 else Option.map (fun x => x.add nc) a1) (l - nc) ((xs.drop o).drop nc) ∧
          WrAt tg0 w0 S0 (k + 1) off xs (o + nc) tg1 S2 (w2.setCell ⟨x.g, 4, none⟩ (.bool true)) ∧ ∀ j, (S2.L j).size = (S0.L j).size := by
      intro tg1 S1 w1 x h1 h2 h3 h4 h5
      have hk1 : k < S1.t := by rw [h1.t]; exact hkt
      obtain ⟨hpg, hpg1, hpg2⟩ := (h3.lv k hk1).page p x h5
      have hkw : Keeps (fun j => j < w0.heap.size ∧ k + 1 < (tg0 j).1) w' w1 := h4.mono fun j hj => ⟨Nat.lt_of_lt_of_le hj.1 hR.kp.size, by rw [hR.tags j hj.1]; exact hj.2⟩
      have hrd1 := hrd.keeps hkw
      obtain ⟨w2, hrun, hpg2', hg2⟩ := page_fill (c := c1) (nc := nc) hpg hrd1 hpo4 (by omega) hnc
      have hpg3 := hpg2'.mark true
      obtain ⟨pd, hc1⟩ := hpg.cell
      obtain ⟨pd2, hc2⟩ := hpg2'.cell
      have tgx : ∀ j, j < w0.heap.size → k + 1 < (tg0 j).1 → j ≠ x.g ∧ j ≠ x.r := fun j hj1 hj2 => by
        have e1 := (h2 j (Nat.lt_of_lt_of_le hj1 hR.kp.size)).trans (hR.tags j hj1)
        constructor
        · intro e; subst e; rw [e1] at hpg1; rw [hpg1] at hj2; omega
        · intro e; subst e; rw [e1] at hpg2; rw [hpg2] at hj2; omega
      have hk2 : Keeps (fun j => j < w1.heap.size ∧ j ≠ x.g ∧ j ≠ x.r) w1 (w2.setCell ⟨x.g, 4, none⟩ (.bool true)) :=
        (Keeps.grown (fun j hj => hj.1) hg2 fun j e hj => hj.2.2 (Option.some.inj e).symm).trans (Keeps.setCell (a := ⟨x.g, 4, none⟩) (fun h => h.2.1 rfl) _)
      have hk3 : Keeps (fun j => j < w0.heap.size ∧ k + 1 < (tg0 j).1) w1 (w2.setCell ⟨x.g, 4, none⟩ (.bool true)) := hk2.mono fun j hj => ⟨Nat.lt_of_lt_of_le hj.1 (Nat.le_trans hR.kp.size h4.size), tgx j hj.1 hj.2⟩
      have hst := h3.setPage hk1 h5 (y := { x with bs := splice x.bs po ((xs.drop o).take nc), dirty := true }) rfl rfl rfl rfl hpg3 (fun j hj1 hj2 hj3 => hk2.block j ⟨hj1, hj2, hj3⟩)
      have hpl : ((xs.drop o).take nc).length = nc := by rw [List.length_take, List.length_drop]; omega
      refine ⟨w2, _, hrun, (cells_at hc1).1 3, (cells_at hc2).1 4, (cells_at hc2).2 4, (hrd1.keeps hk3).rest hlc (by omega), ⟨(hR.upd.trans h1.upd).trans (Upd.setPage S1 k p _), fun i => ?_, fun q => ?_, fun j hj => (h2 j (Nat.lt_of_lt_of_le hj hR.kp.size)).trans (hR.tags j hj), hst, (hR.kp.trans hkw).trans hk3⟩, fun j => ?_⟩
      · rw [St.setPage_raw, h1.raw, hR.raw]
        dsimp only
        by_cases e : i / 4096 = p
        · rw [if_pos e, splice_getD' _ _ _ (by rw [hpl, hpg.len]; omega), hpl]
          by_cases h : po ≤ i % 4096 ∧ i % 4096 < po + nc
          · rw [if_pos h, getD_piece _ _ _ _ (by omega), if_pos (by omega)]
            congr 1; omega
          · rw [if_neg h]
            have hx := h1.raw (k + 1) i
            rw [hR.raw] at hx
            have hx2 : S1.raw (k + 1) i = x.bs.getD (i % 4096) 0 := by unfold St.raw; rw [e, h5]
            rw [← hx2, hx]
            by_cases h6 : off ≤ i ∧ i < off + o
            · rw [if_pos h6, if_pos (by omega)]
            · rw [if_neg h6, if_neg (by omega)]
        · rw [if_neg e]
          by_cases h6 : off ≤ i ∧ i < off + o
          · rw [if_pos h6, if_pos (by omega)]
          · rw [if_neg h6, if_neg (by omega)]
      · rw [St.setPage_dirty, h1.dirty]
        dsimp only
        by_cases e : q = p
        · rw [if_pos ⟨rfl, e⟩]
          exact ⟨fun _ => .inr ⟨of, by omega, by omega, by omega⟩, fun _ => rfl⟩
        · rw [if_neg (fun h => e h.2), hR.dirty]
          constructor
          · rintro (h | ⟨i, i1, i2, i3⟩)
            · exact .inl h
            · exact .inr ⟨i, i1, by omega, i3⟩
          · rintro (h | ⟨i, i1, i2, i3⟩)
            · exact .inl h
            · refine .inr ⟨i, i1, ?_, i3⟩
              apply Classical.byContradiction
              intro hni
              apply e
              rw [← i3]
              omega
      · by_cases e : j = k + 1
        · subst e
          rw [St.setL_same]
          exact (h1.sz _).trans (hsz0 _)
        · rw [St.setL_other S1 _ e]
          exact (h1.sz _).trans (hsz0 _)
    have TAIL := Lib.hid tail
    have hnc1 : 0 < nc := by omega
    have j1 : (po : Int) ≤ 4096 := by omega
    have j2 : (0 : Int) ≤ po := by omega
    have j3 : ¬ 4096 = po := by omega
    have i1 : (nc : Int) ≤ c1 := by omega
    have i0 : (0 : Int) ≤ nc := by omega
    have i2 : nc ≤ l := by omega
    have i3 : (nc : Int) ≤ l := by omega
    cases hf : (S.L (k + 1)).f p with
    | some x =>
      rw [hf] at hlk
      simp only [Option.map_some, ptrO] at hlk
      obtain ⟨w4, S4, hcp, g3, g4, f4, hrd4, hRA, hsz4⟩ := tail tg S w' x (Loads.refl _ _) (fun _ _ => rfl) hR.st (Keeps.refl _ _) hf
      have RA := Lib.hid hRA
      have RD4 := Lib.hid hrd4
      have SZ4 := Lib.hid hsz4
      clear hl hR hexit hlt hS c0 cf hV hVw hVO tail TAIL hRA hrd hr hrd4 hsz0 hsz4
      (repeat (first | go_values | go_skip | go_guarded | go_step | go_upon))
      refine ⟨n - (o + nc), by omega, o + nc, tg, S4, if c1 = nc then a1 else Option.map (fun x => x.add nc) a1, c1 - nc, .int .i64 ((p : Int) + 1), .int .i64 0, rfl, by omega, ?_⟩
      rw [show n - (o + nc) = l - nc by omega]
      have rd4 := RD4.out
      rw [List.drop_drop] at rd4
      exact ⟨⟨rfl, rfl, rfl, rfl, by go_num, rfl, rfl, rfl, rfl, rfl, by go_num⟩, fun h => ⟨by go_num, by go_num⟩, by omega, rd4, RA.out, SZ4.out⟩
    | none =>
      rw [hf] at hlk
      simp only [Option.map_none, ptrO] at hlk
      have LC := load_call (p := p) (rd_any k) hR.st hkt hVO (by omega)
      rw [hb'] at LC
      replace LC := Lib.hid LC
      have LP := fun y bs tg2 S2 w2 (h : Loaded tg w' S k p va vb y bs tg2 S2 w2) => h.put hR.st hkt hf hp1000
      rw [hm] at LP
      replace LP := Lib.hid LP
      obtain ⟨nz, nk, ng, nr⟩ := newPg_facts w'
      have y0 := (nk.cell (a := ⟨b, 0, none⟩) (block_lt_of_cell x0)).trans x0
      have y3 := (cells_at ng).1 3
      simp only [List.getElem?_toArray, List.getElem?_cons_succ, List.getElem?_cons_zero] at y3
      have an := andNot4095 of (by omega)
      rw [hp] at an
      clear nz nk ng nr
      clear hl hR hexit hlt hS c0 cf hV hVw hVO tail hrd hr hsz0
      (repeat (first | go_values | go_skip | go_guarded | go_step | go_upon))
      refine (bufCGet_any _).mono ?_
      rintro e w2 ⟨rfl, rfl⟩
      dsimp only
      (repeat (first | go_values | go_skip | go_guarded | go_step | go_upon))
      refine Code.wp_mono ?_ (wr14 k b w'.heap.size (w'.heap.size + 1) (S.ptr k) of (p * 4096) (.slice a1 l c1) (.int .i64 (n : Int)) .nilIface (.int .i64 (off : Int)) (.int .i64 (p : Int)) (.int .i64 (po : Int)) (.int .i64 (l : Int)) (newPg w') _ _ ⟨rfl, rfl, rfl, rfl, rfl, rfl, rfl, rfl, rfl, rfl, rfl, rfl⟩ y0 y3 an LC.out)
      rintro e a2 w2 ⟨rfl, x, y, ha2, bs, tg2, S2, hLd⟩
      obtain ⟨u2, rfl⟩ := frm81 ha2
      obtain ⟨w3, tg3, S3, hrun3, hf3, hl3, ht3, hs3, hk3⟩ := LP.out y bs tg2 S2 w2 hLd
      obtain ⟨w4, S4, hcp, g3, g4, f4, hrd4, hRA, hsz4⟩ := TAIL.out tg3 S3 w3 _ hl3 ht3 hs3 hk3 hf3
      have x1' : w2.cell? ⟨b, 1, none⟩ = some (.map (some m)) := by
        have hc2 := (hLd.st.lv k (by rw [hLd.ld.t]; exact hkt)).cb
        rw [hLd.ld.up _ (Nat.lt_succ_self k), hb', hm] at hc2
        exact (cells_at hc2).1 1
      have e0 := hLd.vars.e0
      have hy := hLd.er
      have RA := Lib.hid hRA
      have RD4 := Lib.hid hrd4
      have SZ4 := Lib.hid hsz4
      have q4 := neq_nil_err
      have q5 := neq_nil_nil
      clear ha2 hLd hf3 hl3 ht3 hs3 hk3 hRA x0 x1 y0 y3 an LC LP TAIL hlk hrd4 hsz4
      dsimp only [Exit.then]
      rcases hy with rfl | rfl
      · (repeat (first | go_values | go_skip | go_guarded | go_step | go_upon))
        refine ⟨n - (o + nc), by omega, o + nc, tg3, S4, if c1 = nc then a1 else Option.map (fun x => x.add nc) a1, c1 - nc, .int .i64 ((p : Int) + 1), .int .i64 0, rfl, by omega, ?_⟩
        rw [show n - (o + nc) = l - nc by omega]
        have rd4 := RD4.out
        rw [List.drop_drop] at rd4
        exact ⟨⟨rfl, rfl, rfl, rfl, by go_num, rfl, rfl, rfl, rfl, rfl, by go_num⟩, fun h => ⟨by go_num, by go_num⟩, by omega, rd4, RA.out, SZ4.out⟩
      · (repeat (first | go_values | go_skip | go_guarded | go_step | go_upon))
        refine (iseof_any _ va e0).mono ?_
        rintro e w6 ⟨rfl, rfl⟩
        dsimp only
        (repeat (first | go_values | go_skip | go_guarded | go_step | go_upon))
        refine ⟨n - (o + nc), by omega, o + nc, tg3, S4, if c1 = nc then a1 else Option.map (fun x => x.add nc) a1, c1 - nc, .int .i64 ((p : Int) + 1), .int .i64 0, rfl, by omega, ?_⟩
        rw [show n - (o + nc) = l - nc by omega]
        have rd4 := RD4.out
        rw [List.drop_drop] at rd4
        exact ⟨⟨rfl, rfl, rfl, rfl, by go_num, rfl, rfl, rfl, rfl, rfl, by go_num⟩, fun h => ⟨by go_num, by go_num⟩, by omega, rd4, RA.out, SZ4.out⟩
  · obtain rfl : o = n := by omega
    have hz0 : ((o - o : Nat) : Int) = 0 := by omega
    rw [hz0]
    clear hR hexit hlt hS hV hrd hr hlc hsz0
    (repeat (first | go_values | go_skip | go_guarded | go_step | go_upon))
    exact HE.out _ _ _ _ ⟨rfl, rfl, rfl, rfl, rfl, rfl⟩ HRR.out HSZ.out

/-- what a writing leaves -/
def WrPost (tg : Nat → Nat × Nat) (w : World) (S : St) (k off : Nat) (xs : List UInt8) (tg' : Nat → Nat × Nat) (S' : St) (w' : World) : Prop :=
  WrAt tg w S k off xs xs.length tg' S' w' ∧ (S'.L k).size = max (S.L k).size (off + xs.length)

set_option maxRecDepth 100000 in
set_option maxHeartbeats 4000000 in
/-- LEVEL k + 1 IS WRITTEN. -/
theorem bwrite (tg : Nat → Nat × Nat) (w : World) (S : St) (k n c off : Nat) (a : Option Addr) (xs : List UInt8) (va vb : Addr) (hS : StIs tg w S) (hk : k < S.t) (hV : VarsO tg w va vb)
    (hr : Rd (fun j => j < w.heap.size ∧ k + 1 < (tg j).1) w a n xs) (hnc0 : n ≤ c) (hn : n ≤ 1000000) (ho : off + n ≤ 299008) :
    Calls Tryz.prog 81 #[.pointer (some ⟨(S.L (k + 1)).b, 0, none⟩), .slice a n c, .int .i64 (off : Int)] w fun e w' => e = .returned (.tuple #[.int .i64 (n : Int), .nilIface]) ∧ ∃ tg' S', WrPost tg w S (k + 1) off xs tg' S' w' := by
  obtain ⟨b, hb⟩ : ∃ b, (S.L (k + 1)).b = b := ⟨_, rfl⟩
  have hxl : xs.length = n := hr.1
  have hsz := (hS.lv k hk).sz
  have LP := Lib.hid (fun Q0 A hA hx => bwrite_loop Q0 tg w S k n c off b a xs va vb A hS hk hV hb hr hnc0 hn ho hA hx)
  have a1 := and4095 off (by omega)
  have fin : ∀ (tg' : Nat → Nat × Nat) (S' : St) (w' : World), WrAt tg w S (k + 1) off xs n tg' S' w' → (∀ j, (S'.L j).size = (S.L j).size) →
      w'.cell? ⟨b, 2, none⟩ = some (.int .i64 ((S.L (k + 1)).size : Int)) ∧ w'.frozen? ⟨b, 2, none⟩ = false ∧ (∀ m : Nat, m = max (S.L (k + 1)).size (off + n) → ∃ tg' S', WrPost tg w S (k + 1) off xs tg' S' (w'.setCell ⟨b, 2, none⟩ (.int .i64 (m : Int)))) := by
    intro tg' S' w' h hs
    have hk' : k < S'.t := by rw [h.upd.t]; exact hk
    have hl := h.st.lv k hk'
    have hc := hl.cb
    have hb' : (S'.L (k + 1)).b = b := (h.upd.b _).trans hb
    rw [hb', hs] at hc
    refine ⟨(cells_at hc).1 2, (cells_at hc).2 2, fun m hm => ?_⟩
    have h2 := h.st.resize hk' m (by omega)
    rw [hb'] at h2
    refine ⟨tg', _, ⟨h.upd.trans (Upd.resize S' (k + 1) m), fun i => ?_, fun p => ?_, h.tags, h2, h.kp.trans (Keeps.setCell (a := ⟨b, 2, none⟩) ?_ _)⟩, ?_⟩
    · rw [St.resize_raw, h.raw, hxl]
    · rw [St.resize_dirty, h.dirty, hxl]
    · intro hp
      have hbl := hl.blt
      have htb := hl.tb
      rw [hb'] at hbl htb
      rw [h.tags b hp.1] at htb
      have hp2 : k + 1 < (tg b).1 := hp.2
      omega
    · rw [St.setL_same, hxl]
      exact hm
  have FIN := Lib.hid fin
  rw [hb]
  clear fin hS hV hr
  obtain ⟨size, hs⟩ : ∃ size, (S.L (k + 1)).size = size := ⟨_, rfl⟩
  rw [hs] at FIN
  go_enter Tryz.func81, Tryz.ntmps81
  (repeat (first | go_values | go_skip | go_guarded | go_step | go_upon))
  refine LP.out _ _ ⟨rfl, rfl, rfl, rfl, rfl, rfl, rfl, rfl, by go_num, by go_num, rfl⟩ ?_
  intro a' w' tg' S' ha' hW hsz'
  obtain ⟨u', rfl⟩ := frx81 ha'
  obtain ⟨f2, z2, hfin⟩ := FIN.out tg' S' w' hW hsz'
  have FF := Lib.hid hfin
  clear ha' hW hsz' LP FIN hfin
  simp only [Exit.inBlock, ↓reduceIte]
  (repeat (first | go_values | go_skip | go_guarded | go_step | go_upon))
  refine (max_anyI _ _ _ ((max size (off + n) : Nat) : Int) (by omega)).mono ?_
  rintro e w2 ⟨rfl, rfl⟩
  dsimp only
  (repeat (first | go_values | go_skip | go_guarded | go_step | go_upon))
  go_ret2
  exact ⟨rfl, FF.out _ rfl⟩

end Go.Proofs.YtkkliejgmgmebaaGreatDoor
