/-
  File.write.
-/
import Derived.Test.YtkkliejgmgmebaaDoorS3
namespace Go.Proofs.YtkkliejgmgmebaaDoor
open Go.RowKit

/-- xs in the place of what lies from off on -/
def splice {α : Type} (l : List α) (off : Nat) (xs : List α) : List α := l.take off ++ xs ++ l.drop (off + xs.length)

theorem splice_length {α : Type} (l : List α) (off : Nat) (xs : List α) (h : off + xs.length ≤ l.length) : (splice l off xs).length = l.length := by
  simp only [splice, List.length_append, List.length_take, List.length_drop]; omega
theorem splice_nil {α : Type} (l : List α) (off : Nat) : splice l off [] = l := by simp [splice]
theorem splice_get {α : Type} (l : List α) (off : Nat) (xs : List α) (h : off + xs.length ≤ l.length) (j : Nat) : (splice l off xs)[j]? = if j < off then l[j]? else if j < off + xs.length then xs[j - off]? else l[j]? := by
  have hm : min off l.length = off := by omega
  unfold splice
  by_cases h1 : j < off + xs.length
  · rw [List.getElem?_append_left (by rw [List.length_append, List.length_take, hm]; exact h1)]
    by_cases h2 : j < off
    · rw [List.getElem?_append_left (by rw [List.length_take, hm]; exact h2), if_pos h2, List.getElem?_take_of_lt h2]
    · rw [List.getElem?_append_right (by rw [List.length_take, hm]; omega), if_neg h2, if_pos h1, List.length_take, hm]
  · rw [List.getElem?_append_right (by rw [List.length_append, List.length_take, hm]; omega), if_neg (by omega), if_neg h1, List.length_append, List.length_take, hm, List.getElem?_drop]
    congr 1; omega
theorem splice_set {α : Type} (l : List α) (off : Nat) (xs : List α) (i : Nat) (x : α) (hx : xs[i]? = some x) (h : off + xs.length ≤ l.length) : (splice l off (xs.take i)).set (off + i) x = splice l off (xs.take (i + 1)) := by
  have hi : i < xs.length := (List.getElem?_eq_some_iff.1 hx).1
  have e1 : (xs.take i).length = i := by rw [List.length_take]; omega
  have e2 : (xs.take (i + 1)).length = i + 1 := by rw [List.length_take]; omega
  apply List.ext_getElem?
  intro j
  rw [List.getElem?_set, splice_get _ _ _ (by omega), splice_get _ _ _ (by omega), e1, e2, splice_length _ _ _ (by omega)]
  by_cases hj : off + i = j
  · subst hj
    rw [if_pos rfl, if_pos (by omega), if_neg (by omega), if_pos (by omega), show off + i - off = i by omega, List.getElem?_take_of_lt (by omega), hx]
  · rw [if_neg hj]
    by_cases h1 : j < off
    · rw [if_pos h1, if_pos h1]
    · rw [if_neg h1, if_neg h1]
      by_cases h2 : j < off + i
      · rw [if_pos h2, if_pos (by omega), List.getElem?_take_of_lt (by omega), List.getElem?_take_of_lt (by omega)]
      · rw [if_neg h2, if_neg (by omega)]

def Fl.put (F : Fl) (off : Nat) (bs : List UInt8) : Fl := ⟨splice F.d off bs, splice F.k off (List.replicate bs.length true), splice F.r off (List.replicate bs.length true)⟩
def Fl.write (F : Fl) (off : Nat) (bs : List UInt8) : Fl := (if F.d.length < off + bs.length then F.size (off + bs.length) else F).put off bs

/-- a slice of bytes that lies where nothing changes -/
def Rd (Pr : Nat → Prop) (w : World) (a : Option Addr) (n : Nat) (bs : List UInt8) : Prop :=
  bs.length = n ∧ (bs = [] ∨ ∃ b o, a = some ⟨b, o, none⟩ ∧ Pr b ∧ ∀ i x, bs[i]? = some x → w.cell? ⟨b, o + i, none⟩ = some (.int .u8 (x.toNat : Int)))

theorem Rd.keeps {Pr : Nat → Prop} {w w' : World} {a : Option Addr} {n : Nat} {bs : List UInt8} (h : Rd Pr w a n bs) (hk : Keeps Pr w w') : Rd Pr w' a n bs := by
  refine ⟨h.1, ?_⟩
  rcases h.2 with h0 | ⟨b, o, rfl, hp, hc⟩
  · exact .inl h0
  · exact .inr ⟨b, o, rfl, hp, fun i x hx => (hk.cell (a := ⟨b, o + i, none⟩) hp).trans (hc i x hx)⟩

/-- an owned row that isn't empty -/
theorem Row.opened {Pr : Nat → Prop} {w : World} {e : TypeId} {v : Value} {n : Nat} {xs : List Value} (h : Row Pr w e 1 v n xs) (hn : 0 < n) :
    ∃ g cap, v = .slice (some ⟨g, 0, none⟩) n cap ∧ n ≤ cap ∧ ¬ Pr g ∧ (∃ cur, w.heap[g]? = some (.cells cur e (0, 0))) ∧ (∀ j, j < n → w.cell? ⟨g, j, none⟩ = xs[j]?) ∧ (∀ j, w.frozen? ⟨g, j, none⟩ = false) := by
  have h' := h
  rcases h'.2 with ⟨rfl, rfl⟩ | ⟨g, cap, cur, rfl, hp, hg, hnc, -⟩
  · omega
  · exact ⟨g, cap, rfl, hnc, hp, ⟨_, hg⟩, fun j hj => h.cellAt j (by omega), h.frozenAt⟩

theorem put_step {Pr : Nat → Prop} {w : World} {g gd gk gr cd ck cr l off i : Nat} {F : Fl} {bs : List UInt8} {x : UInt8} (hf : FileIs Pr w g (.slice (some ⟨gd, 0, none⟩) l cd) (.slice (some ⟨gk, 0, none⟩) l ck) (.slice (some ⟨gr, 0, none⟩) l cr) (F.put off (bs.take i)))
    (nkr : gk ≠ gr) (ndk : gd ≠ gk) (ndr : gd ≠ gr) (hx : bs[i]? = some x) (hfit : off + bs.length ≤ F.d.length) :
    FileIs Pr (((w.setCell ⟨gd, off + i, none⟩ (.int .u8 (x.toNat : Int))).setCell ⟨gk, off + i, none⟩ (.bool true)).setCell ⟨gr, off + i, none⟩ (.bool true)) g (.slice (some ⟨gd, 0, none⟩) l cd) (.slice (some ⟨gk, 0, none⟩) l ck) (.slice (some ⟨gr, 0, none⟩) l cr) (F.put off (bs.take (i + 1))) := by
  have hi : i < bs.length := (List.getElem?_eq_some_iff.1 hx).1
  have e1 : (bs.take i).length = i := by rw [List.length_take]; omega
  have e2 : (bs.take (i + 1)).length = i + 1 := by rw [List.length_take]; omega
  have ed : (F.put off (bs.take i)).d.length = F.d.length := splice_length _ _ _ (by omega)
  have ed2 : (F.put off (bs.take (i + 1))).d.length = F.d.length := splice_length _ _ _ (by omega)
  obtain ⟨_, _, e0, -⟩ := hf.v.rd.slice
  simp only [Value.slice.injEq] at e0
  obtain rfl : l = F.d.length := e0.2.1.trans ed
  have ek : F.k.length = F.d.length := by
    have := hf.v.lk
    rw [ed] at this
    have h2 : (splice F.k off (List.replicate (bs.take i).length true)).length = F.d.length := this
    rw [e1] at h2
    simp only [splice, List.length_append, List.length_take, List.length_drop, List.length_replicate] at h2
    omega
  have er : F.r.length = F.d.length := by
    have := hf.v.lr
    rw [ed] at this
    have h2 : (splice F.r off (List.replicate (bs.take i).length true)).length = F.d.length := this
    rw [e1] at h2
    simp only [splice, List.length_append, List.length_take, List.length_drop, List.length_replicate] at h2
    omega
  have gd1 : gd ≠ g := fun e => hf.v.rd.neElem hf.cell (by decide) (by rw [← e]; rfl)
  have gk1 : gk ≠ g := fun e => hf.v.rk.neElem hf.cell (by decide) (by rw [← e]; rfl)
  have gr1 : gr ≠ g := fun e => hf.v.rw.neElem hf.cell (by decide) (by rw [← e]; rfl)
  have own : ∀ (a b n c : Nat), a ≠ b → (Value.slice (some ⟨a, 0, none⟩) n c).ownBlock ≠ some b := fun a b n c h e => h (Option.some.inj e)
  have rd := hf.v.rd
  have rk := hf.v.rk
  have rw' := hf.v.rw
  rw [ed] at rd rk rw'
  have r1 := (((rd.stored (off + i) (.int .u8 (x.toNat : Int))).setCell (a := ⟨gk, off + i, none⟩) (own _ _ _ _ ndk) (.bool true)).setCell (a := ⟨gr, off + i, none⟩) (own _ _ _ _ ndr) (.bool true))
  have r2 := (((rk.setCell (a := ⟨gd, off + i, none⟩) (own _ _ _ _ ndk.symm) (.int .u8 (x.toNat : Int))).stored (off + i) (.bool true)).setCell (a := ⟨gr, off + i, none⟩) (own _ _ _ _ nkr) (.bool true))
  have r3 := (((rw'.setCell (a := ⟨gd, off + i, none⟩) (own _ _ _ _ ndr.symm) (.int .u8 (x.toNat : Int))).setCell (a := ⟨gk, off + i, none⟩) (own _ _ _ _ nkr.symm) (.bool true)).stored (off + i) (.bool true))
  refine ⟨?_, hf.ng, ⟨?_, ?_, ?_, hf.v.ne⟩⟩
  · rw [heap_set_other _ _ _ (by exact gr1.symm), heap_set_other _ _ _ (by exact gk1.symm), heap_set_other _ _ _ (by exact gd1.symm)]
    exact hf.cell
  · rw [ed2]
    have : (u8s (F.put off (bs.take i)).d).set (off + i) (.int .u8 (x.toNat : Int)) = u8s (F.put off (bs.take (i + 1))).d := by
      show (List.map _ (splice F.d off (bs.take i))).set (off + i) _ = List.map _ (splice F.d off (bs.take (i + 1)))
      rw [← splice_set F.d off bs i x hx hfit, List.map_set]
    rw [this] at r1
    exact r1
  · rw [ed2]
    have : (bls (F.put off (bs.take i)).k).set (off + i) (.bool true) = bls (F.put off (bs.take (i + 1))).k := by
      show (List.map _ (splice F.k off (List.replicate (bs.take i).length true))).set (off + i) _ = List.map _ (splice F.k off (List.replicate (bs.take (i + 1)).length true))
      have h := splice_set F.k off (List.replicate bs.length true) i true (by simp [hi]) (by simp; omega)
      rw [List.take_replicate, List.take_replicate, Nat.min_eq_left (by omega), Nat.min_eq_left (by omega)] at h
      rw [e1, e2, ← h, List.map_set]
    rw [this] at r2
    exact r2
  · rw [ed2]
    have : (bls (F.put off (bs.take i)).r).set (off + i) (.bool true) = bls (F.put off (bs.take (i + 1))).r := by
      show (List.map _ (splice F.r off (List.replicate (bs.take i).length true))).set (off + i) _ = List.map _ (splice F.r off (List.replicate (bs.take (i + 1)).length true))
      have h := splice_set F.r off (List.replicate bs.length true) i true (by simp [hi]) (by simp; omega)
      rw [List.take_replicate, List.take_replicate, Nat.min_eq_left (by omega), Nat.min_eq_left (by omega)] at h
      rw [e1, e2, ← h, List.map_set]
    rw [this] at r3
    exact r3

noncomputable def body16 : Code := ((Tryd.f16.body.bind firstLoop).getD .skip)

structure frm16p (s0 s2 s24 s25 s26 : Value) (a : Act) : Prop where
  df : a.defers = []
  sz : a.tmps.size = 57
  h0 : a.tmps.getD 0 undef = s0
  h2 : a.tmps.getD 2 undef = s2
  h24 : a.tmps.getD 24 undef = s24
  h25 : a.tmps.getD 25 undef = s25
  h26 : a.tmps.getD 26 undef = s26
set_option maxRecDepth 100000 in
theorem frm16 {s0 s2 s24 s25 s26 : Value} {a : Act} (h : frm16p s0 s2 s24 s25 s26 a) : ∃ u : Nat → Value, a = ⟨#[s0, u 1, s2, u 3, u 4, u 5, u 6, u 7, u 8, u 9, u 10, u 11, u 12, u 13, u 14, u 15, u 16, u 17, u 18, u 19, u 20, u 21, u 22, u 23, s24, s25, s26, u 27, u 28, u 29, u 30, u 31, u 32, u 33, u 34, u 35, u 36, u 37, u 38, u 39, u 40, u 41, u 42, u 43, u 44, u 45, u 46, u 47, u 48, u 49, u 50, u 51, u 52, u 53, u 54, u 55, u 56], []⟩ := by
  obtain ⟨F, df⟩ := a
  obtain ⟨rfl, hs, rfl, rfl, rfl, rfl, rfl⟩ := h
  refine ⟨fun i => F.getD i undef, ?_⟩
  have e := open_frame F
  rw [hs] at e
  exact congrArg (Act.mk · []) e

set_option maxRecDepth 100000 in
set_option maxHeartbeats 4000000 in
theorem write_loop (Q0 : Exit → Act → World → Prop) (Pr : Nat → Prop) (g : Nat) (vd vk vw : Value) (F : Fl) (w : World) (off m c : Nat) (b : Option Addr) (bs : List UInt8) (A : Act) (h : FileIs Pr w g vd vk vw F) (hr : Rd Pr w b m bs) (hfit : off + m ≤ F.d.length) (hl : F.d.length ≤ 100000000)
    (hA : frm16p (.pointer (some ⟨g, 0, none⟩)) (.int .i64 (off : Int)) (.slice b m c) (.int .i64 (m : Int)) (.int .i64 ((0 : Nat) : Int)) A)
    (hmc : m ≤ c) (hexit : ∀ a' w', a'.defers = [] → FileIs Pr w' g vd vk vw (F.put off bs) → Keeps Pr w w' → Q0 (.exit 0) a' w') :
    Code.wp Tryd.prog (Code.loop body16) Q0 A w := by
  refine wp_loop_ghost (fun k a' w' => ∃ i : Nat, k = m - i ∧ i ≤ m ∧ frm16p (.pointer (some ⟨g, 0, none⟩)) (.int .i64 (off : Int)) (.slice b m c) (.int .i64 (m : Int)) (.int .i64 (i : Int)) a' ∧
    FileIs Pr w' g vd vk vw (F.put off (bs.take i)) ∧ Keeps Pr w w') m ⟨0, rfl, Nat.zero_le _, hA, by simpa [Fl.put, splice_nil] using h, Keeps.refl _ _⟩ ?_
  rintro k a' w' ⟨i, rfl, hi, ha, hf, hk⟩
  obtain ⟨u, rfl⟩ := frm16 ha
  clear ha
  conv => arg 2; whnf
  by_cases hlt : i < m
  · obtain ⟨x, hx⟩ : ∃ x, bs[i]? = some x := ⟨_, List.getElem?_eq_getElem (by rw [hr.1]; exact hlt)⟩
    rcases (hr.keeps hk).2 with h0 | ⟨bb, o, rfl, hpb, hcb⟩
    · subst h0; simp at hx
    have hb := hcb i x hx
    have elen : (F.put off (bs.take i)).d.length = F.d.length := splice_length _ _ _ (by rw [List.length_take, hr.1]; omega)
    have hFlen : 0 < F.d.length := by omega
    obtain ⟨c0, c1, c2, f0, f1, f2⟩ := hf.cells
    obtain ⟨gd, cd, rfl, hcd, -, -, dc, df⟩ := hf.v.rd.opened (by omega)
    obtain ⟨gk, ck, rfl, hck, -, -, kc, kf⟩ := hf.v.rk.opened (by omega)
    obtain ⟨gr, cr, rfl, hcr, -, -, rc, rf⟩ := hf.v.rw.opened (by omega)
    rw [elen] at c0 c1 c2 hcd hck hcr
    have nkr : gk ≠ gr := fun e => hf.v.ne gk rfl (by rw [e]; rfl)
    have ndk : gd ≠ gk := fun e => hf.v.rd.neRow hf.v.rk (by decide) rfl (by rw [e]; rfl)
    have ndr : gd ≠ gr := fun e => hf.v.rd.neRow hf.v.rw (by decide) rfl (by rw [e]; rfl)
    have nkd := ndk.symm
    have nrd := ndr.symm
    have nrk := nkr.symm
    have hd0 := dc (off + i) (by rw [elen]; omega)
    have hk0 := kc (off + i) (by rw [elen]; omega)
    have hr0 := rc (off + i) (by rw [elen]; omega)
    obtain ⟨y0, z0⟩ : ∃ y, (u8s (F.put off (bs.take i)).d)[off + i]? = some y := ⟨_, List.getElem?_eq_getElem (by rw [List.length_map, elen]; omega)⟩
    obtain ⟨y1, z1⟩ : ∃ y, (bls (F.put off (bs.take i)).k)[off + i]? = some y := ⟨_, List.getElem?_eq_getElem (by rw [List.length_map, hf.v.lk, elen]; omega)⟩
    obtain ⟨y2, z2⟩ : ∃ y, (bls (F.put off (bs.take i)).r)[off + i]? = some y := ⟨_, List.getElem?_eq_getElem (by rw [List.length_map, hf.v.lr, elen]; omega)⟩
    rw [z0] at hd0
    rw [z1] at hk0
    rw [z2] at hr0
    have df0 := df (off + i)
    have kf0 := kf (off + i)
    have rf0 := rf (off + i)
    have HF := Lib.hid hf
    have HK := Lib.hid hk
    have HX := Lib.hid hx
    have HR := Lib.hid hr
    have HH := Lib.hid h
    have HE := Lib.hid hexit
    have EL := Lib.hid elen
    clear z0 z1 z2 hf hk hx hr h hexit elen dc kc rc df kf rf hcb hA
    (repeat (first | go_values | go_skip | go_guarded | go_step | go_upon))
    refine wp_blind ?_
    go_region
    simp only [onlyNormal]
    (repeat (first | go_values | go_skip | go_guarded | go_step | go_upon))
    refine ⟨m - (i + 1), by omega, i + 1, rfl, by omega, ⟨rfl, rfl, rfl, rfl, rfl, rfl, by go_num⟩, ?_, ?_⟩
    · exact (put_step HF.out nkr ndk ndr HX.out (by rw [HR.out.1]; exact hfit)).drew
    · have ng := fun (k : Nat) (h : Pr k) => h
      refine (((HK.out.trans (Keeps.setCell (a := ⟨gd, off + i, none⟩) (HF.out.v.rd.own (k := gd) rfl).2.1 _)).trans (Keeps.setCell (a := ⟨gk, off + i, none⟩) (HF.out.v.rk.own (k := gk) rfl).2.1 _)).trans (Keeps.setCell (a := ⟨gr, off + i, none⟩) (HF.out.v.rw.own (k := gr) rfl).2.1 _)).trans (Keeps.drew _ _)
  · obtain rfl : i = m := by omega
    have HF := Lib.hid hf
    have HK := Lib.hid hk
    have HE := Lib.hid hexit
    have HR := Lib.hid hr
    clear hf hk hexit hA h hr
    (repeat (first | go_values | go_skip | go_guarded | go_step | go_upon))
    have hF := HF.out
    rw [List.take_of_length_le (by rw [HR.out.1]; exact Nat.le_refl _)] at hF
    exact HE.out _ _ rfl hF HK.out

theorem Fl.size_length (n : Nat) (F : Fl) : (F.size n).d.length = n := by
  simp only [Fl.size, List.length_append, List.length_take, List.length_replicate]; omega
theorem Fl.write_length (F : Fl) (off : Nat) (bs : List UInt8) : (F.write off bs).d.length = max F.d.length (off + bs.length) := by
  unfold Fl.write
  split
  · have e := Fl.size_length (off + bs.length) F
    rw [show ((F.size (off + bs.length)).put off bs).d.length = (F.size (off + bs.length)).d.length from splice_length _ _ _ (by omega), e]
    omega
  · rw [show (F.put off bs).d.length = F.d.length from splice_length _ _ _ (by omega)]
    omega

set_option maxRecDepth 100000 in
set_option maxHeartbeats 4000000 in
theorem write_any (Pr : Nat → Prop) (g : Nat) (vd vk vw : Value) (F : Fl) (w : World) (off m c : Nat) (b : Option Addr) (bs : List UInt8) (hin : Inw Pr w) (h : FileIs Pr w g vd vk vw F) (hr : Rd Pr w b m bs) (hmc : m ≤ c) (hl : F.d.length ≤ 10000000) (ho : off ≤ 1000000) (hm : m ≤ 1000000) :
    Calls Tryd.prog 16 #[.pointer (some ⟨g, 0, none⟩), .slice b m c, .int .i64 (off : Int)] w fun e w' => e = .returned (.tuple #[]) ∧ ∃ vd' vk' vw', FileIs Pr w' g vd' vk' vw' (F.write off bs) ∧ Keeps Pr w w' := by
  obtain ⟨c0, -⟩ := h.cells
  have hm' := hr.1
  obtain ⟨a, ca, rfl, -⟩ := h.v.rd.slice
  have H := Lib.hid h
  have HI := Lib.hid hin
  have HR := Lib.hid hr
  have HM := Lib.hid hm'
  clear h hin hr hm'
  by_cases hlt : F.d.length < off + m
  · go_enter Tryd.func16, Tryd.ntmps16
    (repeat (first | go_values | go_skip | go_guarded | go_step | go_upon))
    refine (size_any Pr g _ vk vw F w (off + m) HI.out H.out (by omega)).mono ?_
    rintro e w' ⟨rfl, vd', vk', vw', hf, hk⟩
    have HF := Lib.hid hf
    have HK := Lib.hid hk
    clear hf hk
    dsimp only
    (repeat (first | go_values | go_skip | go_guarded | go_step | go_upon))
    have el : (F.size (off + m)).d.length = off + m := Fl.size_length _ _
    refine write_loop _ Pr g vd' vk' vw' (F.size (off + m)) w' off m c b bs _ HF.out (HR.out.keeps HK.out) (by omega) (by omega) ⟨rfl, rfl, rfl, rfl, rfl, rfl, rfl⟩ hmc ?_
    intro a' w2 hd hf2 hk2
    have e : F.write off bs = (F.size (off + m)).put off bs := by unfold Fl.write; rw [HM.out, if_pos hlt]
    rw [← e] at hf2
    simp only [Exit.inBlock, ↓reduceIte]
    exact bodyPost_end (results_none rfl _ _ _) hd ⟨rfl, _, _, _, hf2, HK.out.trans hk2⟩
  · go_enter Tryd.func16, Tryd.ntmps16
    (repeat (first | go_values | go_skip | go_guarded | go_step | go_upon))
    refine write_loop _ Pr g _ vk vw F w off m c b bs _ H.out HR.out (by omega) (by omega) ⟨rfl, rfl, rfl, rfl, rfl, rfl, rfl⟩ hmc ?_
    intro a' w2 hd hf2 hk2
    have e : F.write off bs = F.put off bs := by unfold Fl.write; rw [HM.out, if_neg hlt]
    rw [← e] at hf2
    simp only [Exit.inBlock, ↓reduceIte]
    exact bodyPost_end (results_none rfl _ _ _) hd ⟨rfl, _, _, _, hf2, hk2⟩

end Go.Proofs.YtkkliejgmgmebaaDoor
