/-
  FnMemFile: the plain law; its first loop.
-/
import Derived.Test.YtkkliejgmgmebaaDoorL2
namespace Go.Proofs.YtkkliejgmgmebaaDoor
open Go.RowKit

/-- the reference's file behind a call -/
def chg (F : Fl) (o : Op) : Fl := F.change o.kind o.off o.size o.d
def chgs (F : Fl) (L : List Op) : Fl := L.foldl chg F

theorem chgs_snoc (F : Fl) (L : List Op) (o : Op) : chgs F (L ++ [o]) = chg (chgs F L) o := by simp [chgs]

/-- the reference's bytes are the file's -/
theorem chg_d (F : Fl) (o : Op) (len : Nat) (h : fitsB len o.kind o.off o.size o.n = true) (hd : o.d.length = o.n) : (chg F o).d = mstep F.d o.kind o.off o.size o.d := by
  unfold chg Fl.change mstep
  split
  · rename_i k0
    rw [k0] at h
    obtain ⟨-, -, h3, -⟩ := fitsB_0 h
    have hne : o.d ≠ [] := fun e => by rw [e] at hd; simp at hd; omega
    unfold wrB Fl.write
    rw [if_neg hne]
    split
    · show splice (F.size _).d _ _ = _
      simp only [Fl.size]
      rw [List.take_of_length_le (by omega)]
    · rename_i hlt
      show splice F.d _ _ = _
      rw [show o.off.toNat + o.d.length - F.d.length = 0 by omega, List.replicate_zero, List.append_nil]
  · split
    · rfl
    · split
      · rfl
      · rfl

theorem chgs_d : ∀ (L : List Op) (F : Fl), fitsAll L → (∀ o ∈ L, o.d.length = o.n) → (chgs F L).d = memB F.d L
  | [], _, _, _ => rfl
  | o :: L, F, hf, hd => by
    obtain ⟨len, hl⟩ := hf o (List.mem_cons_self ..)
    have h := chgs_d L (chg F o) (fun x hx => hf x (List.mem_cons_of_mem _ hx)) (fun x hx => hd x (List.mem_cons_of_mem _ hx))
    show (chgs (chg F o) L).d = memB (mstep F.d o.kind o.off o.size o.d) L
    rw [h, chg_d F o len hl (hd o (List.mem_cons_self ..))]

/-- every call is one of which something is said, where it stands -/
def fitsFrom (bs : List UInt8) (L : List Op) : Prop := ∀ (j : Nat) (o : Op), L[j]? = some o → fitsB (memB bs (L.take j)).length o.kind o.off o.size o.n = true

theorem fitsFrom.all {bs : List UInt8} {L : List Op} (h : fitsFrom bs L) : fitsAll L := fun o ho => by
  obtain ⟨j, hj⟩ := List.getElem?_of_mem ho
  exact ⟨_, h j o hj⟩

theorem fitsFrom.snoc {bs : List UInt8} {L : List Op} {o : Op} (h : fitsFrom bs L) (ho : fitsB (memB bs L).length o.kind o.off o.size o.n = true) : fitsFrom bs (L ++ [o]) := by
  intro j p hp
  have hj : j < L.length + 1 := by have := (List.getElem?_eq_some_iff.1 hp).1; simpa using this
  by_cases hlt : j < L.length
  · rw [List.getElem?_append_left hlt] at hp
    rw [List.take_append_of_le_length (by omega)]
    exact h j p hp
  · obtain rfl : j = L.length := by omega
    rw [List.getElem?_append_right (Nat.le_refl _), Nat.sub_self] at hp
    simp only [List.getElem?_cons_zero, Option.some.injEq] at hp
    subst hp
    rw [List.take_left']
    · exact ho
    · rfl

noncomputable def body3a : Code := ((Tryd.f3.body.bind firstLoop).getD .skip)

structure frm3ap (s0 s1 s5 s6 s35 s36 s37 : Value) (a : Act) : Prop where
  df : a.defers = []
  sz : a.tmps.size = 111
  h0 : a.tmps.getD 0 undef = s0
  h1 : a.tmps.getD 1 undef = s1
  h5 : a.tmps.getD 5 undef = s5
  h6 : a.tmps.getD 6 undef = s6
  h35 : a.tmps.getD 35 undef = s35
  h36 : a.tmps.getD 36 undef = s36
  h37 : a.tmps.getD 37 undef = s37
set_option maxRecDepth 100000 in
theorem frm3a {s0 s1 s5 s6 s35 s36 s37 : Value} {a : Act} (h : frm3ap s0 s1 s5 s6 s35 s36 s37 a) : ∃ u : Nat → Value, a = ⟨#[s0, s1, u 2, u 3, u 4, s5, s6, u 7, u 8, u 9, u 10, u 11, u 12, u 13, u 14, u 15, u 16, u 17, u 18, u 19, u 20, u 21, u 22, u 23, u 24, u 25, u 26, u 27, u 28, u 29, u 30, u 31, u 32, u 33, u 34, s35, s36, s37, u 38, u 39, u 40, u 41, u 42, u 43, u 44, u 45, u 46, u 47, u 48, u 49, u 50, u 51, u 52, u 53, u 54, u 55, u 56, u 57, u 58, u 59, u 60, u 61, u 62, u 63, u 64, u 65, u 66, u 67, u 68, u 69, u 70, u 71, u 72, u 73, u 74, u 75, u 76, u 77, u 78, u 79, u 80, u 81, u 82, u 83, u 84, u 85, u 86, u 87, u 88, u 89, u 90, u 91, u 92, u 93, u 94, u 95, u 96, u 97, u 98, u 99, u 100, u 101, u 102, u 103, u 104, u 105, u 106, u 107, u 108, u 109, u 110], []⟩ := by
  obtain ⟨F, df⟩ := a
  obtain ⟨rfl, hs, rfl, rfl, rfl, rfl, rfl, rfl, rfl⟩ := h
  refine ⟨fun i => F.getD i undef, ?_⟩
  have e := open_frame F
  rw [hs] at e
  exact congrArg (Act.mk · []) e

set_option maxRecDepth 100000 in
set_option maxHeartbeats 4000000 in
/-- THE FIRST LOOP: every call fits, or the law says true. -/
theorem loop3a (Q0 : Exit → Act → World → Prop) (Pr : Nat → Prop) (w : World) (gf : Nat) (vd vk vw v0 v1 : Value) (F : Fl) (L : List Op) (a : Option Addr) (n c : Nat) (A : Act)
    (hin : Inw Pr w) (hL : L.length = n) (hn : n ≤ 1000000) (hnc : n ≤ c) (hrd : rdO Pr w a L) (hF : FileIs Pr w gf vd vk vw F) (hbs : F.d.length ≤ 262144)
    (hA : frm3ap v0 v1 (.pointer (some ⟨gf, 0, none⟩)) (.slice a n c) (.slice a n c) (.int .i64 (n : Int)) (.int .i64 ((0 : Nat) : Int)) A)
    (hout : ∀ (a' : Act) w', a'.defers = [] → a'.tmps.getD 4 undef = .bool true → Keeps Pr w w' → Q0 .ret a' w')
    (hexit : ∀ a' w' vd' vk' vw', frm3ap v0 v1 (.pointer (some ⟨gf, 0, none⟩)) (.slice a n c) (.slice a n c) (.int .i64 (n : Int)) (.int .i64 (n : Int)) a' → fitsFrom F.d L → FileIs Pr w' gf vd' vk' vw' (chgs F L) → Keeps Pr w w' → Q0 (.exit 0) a' w') :
    Code.wp Tryd.prog (Code.loop body3a) Q0 A w := by
  have hd : ∀ o ∈ L, o.d.length = o.n := fun o ho => by
    rcases hrd with h0 | ⟨b, off, -, -, hc⟩
    · subst h0; cases ho
    · obtain ⟨i, hi⟩ := List.getElem?_of_mem ho
      exact (hc i o hi).rd.1
  refine wp_loop_ghost (fun k a' w' => ∃ (i : Nat) (vd vk vw : Value), k = n - i ∧ i ≤ n ∧ frm3ap v0 v1 (.pointer (some ⟨gf, 0, none⟩)) (.slice a n c) (.slice a n c) (.int .i64 (n : Int)) (.int .i64 (i : Int)) a' ∧ fitsFrom F.d (L.take i) ∧ FileIs Pr w' gf vd vk vw (chgs F (L.take i)) ∧ Keeps Pr w w') n
    ⟨0, vd, vk, vw, rfl, Nat.zero_le _, hA, fun j o ho => (by rw [List.take_zero] at ho; cases ho), by rw [List.take_zero]; exact hF, Keeps.refl _ _⟩ ?_
  rintro k a' w' ⟨i, vd, vk, vw, rfl, hi, ha, hfa, hf, hk⟩
  obtain ⟨u, rfl⟩ := frm3a ha
  clear ha hA hF
  have HE := Lib.hid hexit
  have HO := Lib.hid hout
  have HF := Lib.hid hf
  have HK := Lib.hid hk
  have HFA := Lib.hid hfa
  conv => arg 2; whnf
  by_cases hlt : i < n
  · obtain ⟨o, ho⟩ : ∃ o, L[i]? = some o := ⟨_, List.getElem?_eq_getElem (by omega)⟩
    rcases hrd with h0 | ⟨b, off, rfl, hb, hc⟩
    · subst h0; cases ho
    have hop := (hc i o ho).keeps hb hk
    have x0 := hop.c0
    have x1 := hop.c1
    have x2 := hop.c2
    have x3 := hop.c3
    have hnc2 := hop.nc
    have hlen : (chgs F (L.take i)).d.length ≤ 262144 := by
      rw [chgs_d _ _ hfa.all (fun x hx => hd x (List.mem_of_mem_take hx))]
      have := memB_len (L.take i) F.d hfa.all (fun x hx => hd x (List.mem_of_mem_take hx))
      omega
    have hT := take_snoc ho
    have hmb : (memB F.d (L.take i)).length = (chgs F (L.take i)).d.length := by rw [chgs_d _ _ hfa.all (fun x hx => hd x (List.mem_of_mem_take hx))]
    have hon : o.n ≤ 9223372036854775807 := Nat.le_trans hnc2 hop.cb
    have hinw := hin.mono hk.size
    have hchg := fun (W1 w2 : World) (h1 : Keeps (Old w') w' W1) (h2 : Keeps (Old W1) W1 w2) (hb : fitsB (chgs F (L.take i)).d.length o.kind o.off o.size o.n = true) =>
      change_any Pr gf vd vk vw (chgs F (L.take i)) w2 o.kind o.off o.size o.a o.n o.c o.d (hinw.mono (old_trans h1 h2).size) (hf.kept (old_trans h1 h2) fun k hk _ => hk) (hop.rd.keeps ((old_trans h1 h2).mono hinw)) hop.nc (by omega) hb
    obtain ⟨d0, -⟩ := hf.cells
    obtain ⟨aD, cD, rfl, hcD, -⟩ := hf.v.rd.slice
    have hgf := lt_of_heap hf.cell
    have HIW := Lib.hid hinw
    have HC := Lib.hid hchg
    have HLen := Lib.hid hlen
    have HTK := Lib.hid hT
    clear hc hd hop hf hk hexit hout hfa hlen hT hinw hchg ho
    obtain ⟨kd, of, sz, oa, on, oc, od⟩ := o
    simp only at x0 x1 x2 x3 hnc2 hon
    obtain ⟨lenF, hlenF⟩ : ∃ lenF, (chgs F (L.take i)).d.length = lenF := ⟨_, rfl⟩
    rw [hlenF] at d0 hcD
    have HLF := Lib.hid hlenF
    have HMB := Lib.hid (hmb.trans hlenF)
    clear hlenF hmb
    have hlF : lenF ≤ 100000000 := by have := HLen.out; have := HLF.out; omega
    (repeat (first | go_values | go_skip | go_guarded | go_step | go_upon))
    have hb1 : Keeps (Old w') w' (w'.alloc (.cells #[.int .i64 kd, .int .i64 of, .int .i64 sz, .slice oa on oc] 32)) := Keeps.alloc (fun _ h => h) _
    refine (fits_any (Old (w'.alloc (.cells #[.int .i64 kd, .int .i64 of, .int .i64 sz, .slice oa on oc] 32))) _ gf aD lenF cD kd of sz oa on oc ((hb1.cell (a := ⟨gf, 0, none⟩) hgf).trans d0) (Nat.lt_of_lt_of_le hgf hb1.size) hlF hon (fun _ h => h)).mono ?_
    rintro e w2 ⟨rfl, hk2⟩
    have hb2 : w2.heap[w'.heap.size]? = some (.cells #[.int .i64 kd, .int .i64 of, .int .i64 sz, .slice oa on oc] 32 (0, 0)) := (hk2.block w'.heap.size (by simp)).trans (heap_alloc_new _ _)
    obtain ⟨q0, -⟩ := cells_at hb2
    have y0 := q0 0
    have y1 := q0 1
    have y2 := q0 2
    have y3 := q0 3
    simp only [List.getElem?_toArray, List.getElem?_cons_succ, List.getElem?_cons_zero] at y0 y1 y2 y3
    have HKO := Lib.hid (hb1.mono HIW.out |>.trans (hk2.mono fun k hp => Nat.lt_of_lt_of_le (HIW.out k hp) hb1.size))
    have HCH := Lib.hid (HC.out _ _ hb1 hk2)
    clear hb1 hk2 hb2 q0 HC
    obtain ⟨B, hB⟩ : ∃ B, fitsB lenF kd of sz on = B := ⟨_, rfl⟩
    rw [hB]
    have HBB := Lib.hid hB
    clear hB
    dsimp only
    cases B
    · (repeat (first | go_values | go_skip | go_guarded | go_step | go_upon))
      exact HO.out _ _ rfl rfl (HK.out.trans HKO.out)
    · (repeat (first | go_values | go_skip | go_guarded | go_step | go_upon))
      refine (HCH.out (by rw [HLF.out]; exact HBB.out)).mono ?_
      rintro e w3 ⟨rfl, vd', vk', vw', hf3, hk3⟩
      have HF3 := Lib.hid hf3
      have HK3 := Lib.hid ((HK.out.trans HKO.out).trans hk3)
      clear hf3 hk3 HCH
      dsimp only
      (repeat (first | go_values | go_skip | go_guarded | go_step | go_upon))
      refine ⟨n - (i + 1), by omega, i + 1, vd', vk', vw', rfl, by omega, ⟨rfl, rfl, rfl, rfl, rfl, rfl, rfl, rfl, by go_num⟩, ?_, ?_, HK3.out⟩
      · rw [HTK.out]
        exact HFA.out.snoc (by rw [HMB.out]; exact HBB.out)
      · rw [HTK.out, chgs_snoc]
        exact HF3.out
  · obtain rfl : i = n := by omega
    rw [List.take_of_length_le (by omega)] at hf hfa
    have HF2 := Lib.hid hf
    have HFA2 := Lib.hid hfa
    clear hrd hd hf hk hexit hout hfa HF HFA
    (repeat (first | go_values | go_skip | go_guarded | go_step | go_upon))
    exact HE.out _ _ _ _ _ ⟨rfl, rfl, rfl, rfl, rfl, rfl, rfl, rfl, rfl⟩ HFA2.out HF2.out HK.out

end Go.Proofs.YtkkliejgmgmebaaDoor
