/-
  File.size.
-/
import Derived.Test.YtkkliejgmgmebaaGreatDoorS2
import Derived.Deep.LoopGhost
import Derived.Test.YtkkliejgmgmebaaGreatDoorSa
namespace Go.Proofs.YtkkliejgmgmebaaGreatDoor
open Go.RowKit

/-- a file, made as long as it is told -/
def Fl.size (n : Nat) (F : Fl) : Fl := ⟨F.d.take n ++ List.replicate (n - F.d.length) 0, F.k.take n ++ List.replicate (n - F.d.length) true, F.r.take n ++ List.replicate (n - F.d.length) false⟩

/-- j zeros more -/
def Fl.more (j : Nat) (F : Fl) : Fl := ⟨F.d ++ List.replicate j 0, F.k ++ List.replicate j true, F.r ++ List.replicate j false⟩

theorem Fl.more_succ (j : Nat) (F : Fl) : (⟨(F.more j).d ++ [0], (F.more j).k ++ [true], (F.more j).r ++ [false]⟩ : Fl) = F.more (j + 1) := by
  simp only [Fl.more, List.append_assoc, ← List.replicate_succ']

theorem Fl.more_take (n j : Nat) (F : Fl) (hk : F.k.length = F.d.length) (hr : F.r.length = F.d.length) (hn : n ≤ F.d.length + j) : (⟨(F.more j).d.take n, (F.more j).k.take n, (F.more j).r.take n⟩ : Fl) = F.size n := by
  have hm : min (n - F.d.length) j = n - F.d.length := by omega
  simp only [Fl.more, Fl.size, List.take_append, List.take_replicate, hk, hr, hm]

theorem own_len (a : Option Addr) (n c n' c' : Nat) : (Value.slice a n c).ownBlock = (Value.slice a n' c').ownBlock := by cases a <;> rfl

theorem FileVal.cut {Pr : Nat → Prop} {w : World} {a b b' : Option Addr} {l c c' c'' : Nat} {F : Fl} (h : FileVal Pr w (.slice a l c) (.slice b l c') (.slice b' l c'') F) (n : Nat) (hl : F.d.length = l) (hn : n ≤ l) :
    FileVal Pr w (.slice a n c) (.slice b n c') (.slice b' n c'') ⟨F.d.take n, F.k.take n, F.r.take n⟩ := by
  obtain ⟨_, _, e0, h0, -⟩ := h.rd.slice
  obtain ⟨_, _, e1, h1, -⟩ := h.rk.slice
  obtain ⟨_, _, e2, h2, -⟩ := h.rw.slice
  simp only [Value.slice.injEq] at e0 e1 e2
  obtain ⟨rfl, -, rfl⟩ := e0
  obtain ⟨rfl, -, rfl⟩ := e1
  obtain ⟨rfl, -, rfl⟩ := e2
  subst hl
  have e : (F.d.take n).length = n := by rw [List.length_take]; omega
  refine ⟨?_, ?_, ?_, fun k h1 h2 => h.ne k ((own_len b _ _ _ _).trans h1) ((own_len b' _ _ _ _).trans h2)⟩
  · have := h.rd.cut n c hn (by omega) (Nat.le_refl _)
    rw [Nat.mul_one, ← List.map_take] at this
    rw [e]; exact this
  · have := h.rk.cut n c' hn (by omega) (Nat.le_refl _)
    rw [Nat.mul_one, ← List.map_take] at this
    rw [e]; exact this
  · have := h.rw.cut n c'' hn (by omega) (Nat.le_refl _)
    rw [Nat.mul_one, ← List.map_take] at this
    rw [e]; exact this

set_option maxRecDepth 100000 in
theorem size_r1' (Pr : Nat → Prop) (g : FP) (vd vk vw : Value) (F : Fl) (W : World) (n : Int) (a : Act) (ha : frm18p (.pointer (some ⟨g.b, g.o, none⟩)) (.int .i64 n) a) (hin : Inw Pr W) (h : FileIs Pr W g vd vk vw F) (hl : F.d.length ≤ 8589934592) :
    Code.wp Tryz.prog reg18 (fun e a' w' => e = .normal ∧ frm18p (.pointer (some ⟨g.b, g.o, none⟩)) (.int .i64 n) a' ∧
      ∃ vd' vk' vw', FileIs Pr w' g vd' vk' vw' ⟨F.d ++ [0], F.k ++ [true], F.r ++ [false]⟩ ∧ Keeps Pr W w') a W := by
  obtain ⟨u, rfl⟩ := frm18 ha
  exact size_r1 Pr g vd vk vw F W n u hin h hl

set_option maxRecDepth 100000 in
set_option maxHeartbeats 4000000 in
theorem size_any (Pr : Nat → Prop) (g : FP) (vd vk vw : Value) (F : Fl) (w : World) (n : Nat) (hin : Inw Pr w) (h : FileIs Pr w g vd vk vw F) (hn : n ≤ 4294967296) :
    Calls Tryz.prog 33 #[.pointer (some ⟨g.b, g.o, none⟩), .int .i64 (n : Int)] w fun e w' => e = .returned (.tuple #[]) ∧ ∃ vd' vk' vw', FileIs Pr w' g vd' vk' vw' (F.size n) ∧ Keeps Pr w w' := by
  have H := Lib.hid h
  have HI := Lib.hid hin
  clear h hin
  go_enter Tryz.func33, Tryz.ntmps33
  (repeat (first | go_values | go_skip | go_guarded | go_step | go_upon))
  refine wp_loop_ghost (fun m a' w' => frm18p (.pointer (some ⟨g.b, g.o, none⟩)) (.int .i64 (n : Int)) a' ∧ ∃ j vd vk vw, m = n - (F.d.length + j) ∧ (j = 0 ∨ F.d.length + j ≤ n) ∧ FileIs Pr w' g vd vk vw (F.more j) ∧ Keeps Pr w w') (n - F.d.length) ⟨⟨rfl, rfl, rfl, rfl⟩, 0, vd, vk, vw, rfl, .inl rfl, ?_, Keeps.refl _ _⟩ ?_
  · have := H.out
    simpa [Fl.more] using this
  rintro m a' w' ⟨ha, j, vd, vk, vw, hm, hj, hf, hk⟩
  obtain ⟨u, rfl⟩ := frm18 ha
  obtain ⟨c0, c1, c2, f0, f1, f2⟩ := hf.cells
  have hlen : (F.more j).d.length = F.d.length + j := by simp [Fl.more]
  obtain ⟨a, c, rfl, hac, -⟩ := hf.v.rd.slice
  rw [hlen] at c0 hac
  have HF := Lib.hid hf
  have HK := Lib.hid hk
  have HM := Lib.hid hm
  have HL := Lib.hid hlen
  clear hf hk hm ha hlen
  by_cases hlt : F.d.length + j < n
  · (repeat (first | go_values | go_skip | go_guarded | go_step | go_upon))
    refine Code.wp_mono ?_ (size_r1' Pr g _ vk vw (F.more j) w' n _ ⟨rfl, rfl, rfl, rfl⟩ (HI.out.mono HK.out.size) HF.out (by rw [HL.out]; omega))
    rintro e a2 w2 ⟨rfl, ha2, vd', vk', vw', hf2, hk2⟩
    refine ⟨n - (F.d.length + (j + 1)), by have := HM.out; omega, ha2, j + 1, vd', vk', vw', rfl, .inr (by omega), ?_, HK.out.trans hk2⟩
    rw [Fl.more_succ] at hf2
    exact hf2
  · (repeat (first | go_values | go_skip | go_guarded | go_step | go_upon))
    have h0 : (0 : Int) ≤ n := by omega
    have hcm : (n : Int) ≤ c := by omega
    obtain ⟨b, c', rfl, hbc, -⟩ := HF.out.v.rk.slice
    obtain ⟨b', c'', rfl, hbc', -⟩ := HF.out.v.rw.slice
    rw [HL.out] at c1 c2 hbc hbc'
    have h1m : (n : Int) ≤ c' := by omega
    have h2m : (n : Int) ≤ c'' := by omega
    go_region
    have hv := HF.out.v.cut n rfl (by rw [HL.out]; omega)
    rw [Fl.more_take n j F (by have := HF.out.v.lk; simp [Fl.more] at this; exact this) (by have := HF.out.v.lr; simp [Fl.more] at this; exact this) (by omega)] at hv
    obtain ⟨hF, hK⟩ := file_store3 HF.out.cell HF.out.lo HF.out.ng hv
    exact bodyPost_end (results_none rfl _ _ _) rfl ⟨rfl, _, _, _, hF.drew, (HK.out.trans hK).trans (Keeps.drew _ _)⟩

end Go.Proofs.YtkkliejgmgmebaaGreatDoor

namespace Go.Proofs.YtkkliejgmgmebaaGreatDoor
open Go.RowKit

/-- xs in the place of what lies from off on -/
def splice {α : Type} (l : List α) (off : Nat) (xs : List α) : List α := l.take off ++ xs ++ l.drop (off + xs.length)

theorem splice_length {α : Type} (l : List α) (off : Nat) (xs : List α) (h : off + xs.length ≤ l.length) : (splice l off xs).length = l.length := by
  simp only [splice, List.length_append, List.length_take, List.length_drop]; omega
theorem splice_nil {α : Type} (l : List α) (off : Nat) : splice l off [] = l := by simp [splice]
theorem splice_get {α : Type} (l : List α) (off : Nat) (xs : List α) (h : off + xs.length ≤ l.length) (j : Nat) : (splice l off xs)[j]? = if j < off then l[j]? else if j < off + xs.length then xs[j - off]? else l[j]? := by
  have hm : min off l.length = off := by omega
  unfold splice
  by_cases h1 : j < off + xs.length
  · rw [List.getElem?_append_left (by rw [List.length_append, List.length_take, hm]; exact h1)]
    by_cases h2 : j < off
    · rw [List.getElem?_append_left (by rw [List.length_take, hm]; exact h2), if_pos h2, List.getElem?_take_of_lt h2]
    · rw [List.getElem?_append_right (by rw [List.length_take, hm]; omega), if_neg h2, if_pos h1, List.length_take, hm]
  · rw [List.getElem?_append_right (by rw [List.length_append, List.length_take, hm]; omega), if_neg (by omega), if_neg h1, List.length_append, List.length_take, hm, List.getElem?_drop]
    congr 1; omega
theorem splice_set {α : Type} (l : List α) (off : Nat) (xs : List α) (i : Nat) (x : α) (hx : xs[i]? = some x) (h : off + xs.length ≤ l.length) : (splice l off (xs.take i)).set (off + i) x = splice l off (xs.take (i + 1)) := by
  have hi : i < xs.length := (List.getElem?_eq_some_iff.1 hx).1
  have e1 : (xs.take i).length = i := by rw [List.length_take]; omega
  have e2 : (xs.take (i + 1)).length = i + 1 := by rw [List.length_take]; omega
  apply List.ext_getElem?
  intro j
  rw [List.getElem?_set, splice_get _ _ _ (by omega), splice_get _ _ _ (by omega), e1, e2, splice_length _ _ _ (by omega)]
  by_cases hj : off + i = j
  · subst hj
    rw [if_pos rfl, if_pos (by omega), if_neg (by omega), if_pos (by omega), show off + i - off = i by omega, List.getElem?_take_of_lt (by omega), hx]
  · rw [if_neg hj]
    by_cases h1 : j < off
    · rw [if_pos h1, if_pos h1]
    · rw [if_neg h1, if_neg h1]
      by_cases h2 : j < off + i
      · rw [if_pos h2, if_pos (by omega), List.getElem?_take_of_lt (by omega), List.getElem?_take_of_lt (by omega)]
      · rw [if_neg h2, if_neg (by omega)]

def Fl.put (F : Fl) (off : Nat) (bs : List UInt8) : Fl := ⟨splice F.d off bs, splice F.k off (List.replicate bs.length true), splice F.r off (List.replicate bs.length true)⟩
def Fl.write (F : Fl) (off : Nat) (bs : List UInt8) : Fl := (if F.d.length < off + bs.length then F.size (off + bs.length) else F).put off bs

/-- a slice of bytes that lies where nothing changes -/
def Rd (Pr : Nat → Prop) (w : World) (a : Option Addr) (n : Nat) (bs : List UInt8) : Prop :=
  bs.length = n ∧ (bs = [] ∨ ∃ b o, a = some ⟨b, o, none⟩ ∧ Pr b ∧ ∀ i x, bs[i]? = some x → w.cell? ⟨b, o + i, none⟩ = some (.int .u8 (x.toNat : Int)))

theorem Rd.keeps {Pr : Nat → Prop} {w w' : World} {a : Option Addr} {n : Nat} {bs : List UInt8} (h : Rd Pr w a n bs) (hk : Keeps Pr w w') : Rd Pr w' a n bs := by
  refine ⟨h.1, ?_⟩
  rcases h.2 with h0 | ⟨b, o, rfl, hp, hc⟩
  · exact .inl h0
  · exact .inr ⟨b, o, rfl, hp, fun i x hx => (hk.cell (a := ⟨b, o + i, none⟩) hp).trans (hc i x hx)⟩

/-- an owned row that isn't empty -/
theorem Row.opened {Pr : Nat → Prop} {w : World} {e : TypeId} {v : Value} {n : Nat} {xs : List Value} (h : Row Pr w e 1 v n xs) (hn : 0 < n) :
    ∃ g cap, v = .slice (some ⟨g, 0, none⟩) n cap ∧ n ≤ cap ∧ ¬ Pr g ∧ (∃ cur, w.heap[g]? = some (.cells cur e (0, 0))) ∧ (∀ j, j < n → w.cell? ⟨g, j, none⟩ = xs[j]?) ∧ (∀ j, w.frozen? ⟨g, j, none⟩ = false) := by
  have h' := h
  rcases h'.2 with ⟨rfl, rfl⟩ | ⟨g, cap, cur, rfl, hp, hg, hnc, -⟩
  · omega
  · exact ⟨g, cap, rfl, hnc, hp, ⟨_, hg⟩, fun j hj => h.cellAt j (by omega), h.frozenAt⟩

theorem put_step {Pr : Nat → Prop} {w : World} {g : FP} {gd gk gr cd ck cr l off i : Nat} {F : Fl} {bs : List UInt8} {x : UInt8} (hf : FileIs Pr w g (.slice (some ⟨gd, 0, none⟩) l cd) (.slice (some ⟨gk, 0, none⟩) l ck) (.slice (some ⟨gr, 0, none⟩) l cr) (F.put off (bs.take i)))
    (nkr : gk ≠ gr) (ndk : gd ≠ gk) (ndr : gd ≠ gr) (hx : bs[i]? = some x) (hfit : off + bs.length ≤ F.d.length) :
    FileIs Pr (((w.setCell ⟨gd, off + i, none⟩ (.int .u8 (x.toNat : Int))).setCell ⟨gk, off + i, none⟩ (.bool true)).setCell ⟨gr, off + i, none⟩ (.bool true)) g (.slice (some ⟨gd, 0, none⟩) l cd) (.slice (some ⟨gk, 0, none⟩) l ck) (.slice (some ⟨gr, 0, none⟩) l cr) (F.put off (bs.take (i + 1))) := by
  have hi : i < bs.length := (List.getElem?_eq_some_iff.1 hx).1
  have e1 : (bs.take i).length = i := by rw [List.length_take]; omega
  have e2 : (bs.take (i + 1)).length = i + 1 := by rw [List.length_take]; omega
  have ed : (F.put off (bs.take i)).d.length = F.d.length := splice_length _ _ _ (by omega)
  have ed2 : (F.put off (bs.take (i + 1))).d.length = F.d.length := splice_length _ _ _ (by omega)
  obtain ⟨_, _, e0, -⟩ := hf.v.rd.slice
  simp only [Value.slice.injEq] at e0
  obtain rfl : l = F.d.length := e0.2.1.trans ed
  have ek : F.k.length = F.d.length := by
    have := hf.v.lk
    rw [ed] at this
    have h2 : (splice F.k off (List.replicate (bs.take i).length true)).length = F.d.length := this
    rw [e1] at h2
    simp only [splice, List.length_append, List.length_take, List.length_drop, List.length_replicate] at h2
    omega
  have er : F.r.length = F.d.length := by
    have := hf.v.lr
    rw [ed] at this
    have h2 : (splice F.r off (List.replicate (bs.take i).length true)).length = F.d.length := this
    rw [e1] at h2
    simp only [splice, List.length_append, List.length_take, List.length_drop, List.length_replicate] at h2
    omega
  have gd1 : gd ≠ g.b := fun e => hf.v.rd.neElem hf.cell (by decide) (by rw [← e]; rfl)
  have gk1 : gk ≠ g.b := fun e => hf.v.rk.neElem hf.cell (by decide) (by rw [← e]; rfl)
  have gr1 : gr ≠ g.b := fun e => hf.v.rw.neElem hf.cell (by decide) (by rw [← e]; rfl)
  have own : ∀ (a b n c : Nat), a ≠ b → (Value.slice (some ⟨a, 0, none⟩) n c).ownBlock ≠ some b := fun a b n c h e => h (Option.some.inj e)
  have rd := hf.v.rd
  have rk := hf.v.rk
  have rw' := hf.v.rw
  rw [ed] at rd rk rw'
  have r1 := (((rd.stored (off + i) (.int .u8 (x.toNat : Int))).setCell (a := ⟨gk, off + i, none⟩) (own _ _ _ _ ndk) (.bool true)).setCell (a := ⟨gr, off + i, none⟩) (own _ _ _ _ ndr) (.bool true))
  have r2 := (((rk.setCell (a := ⟨gd, off + i, none⟩) (own _ _ _ _ ndk.symm) (.int .u8 (x.toNat : Int))).stored (off + i) (.bool true)).setCell (a := ⟨gr, off + i, none⟩) (own _ _ _ _ nkr) (.bool true))
  have r3 := (((rw'.setCell (a := ⟨gd, off + i, none⟩) (own _ _ _ _ ndr.symm) (.int .u8 (x.toNat : Int))).setCell (a := ⟨gk, off + i, none⟩) (own _ _ _ _ nkr.symm) (.bool true)).stored (off + i) (.bool true))
  refine ⟨?_, hf.lo, hf.ng, ⟨?_, ?_, ?_, hf.v.ne⟩⟩
  · rw [heap_set_other _ _ _ (by exact gr1.symm), heap_set_other _ _ _ (by exact gk1.symm), heap_set_other _ _ _ (by exact gd1.symm)]
    exact hf.cell
  · rw [ed2]
    have : (u8s (F.put off (bs.take i)).d).set (off + i) (.int .u8 (x.toNat : Int)) = u8s (F.put off (bs.take (i + 1))).d := by
      show (List.map _ (splice F.d off (bs.take i))).set (off + i) _ = List.map _ (splice F.d off (bs.take (i + 1)))
      rw [← splice_set F.d off bs i x hx hfit, List.map_set]
    rw [this] at r1
    exact r1
  · rw [ed2]
    have : (bls (F.put off (bs.take i)).k).set (off + i) (.bool true) = bls (F.put off (bs.take (i + 1))).k := by
      show (List.map _ (splice F.k off (List.replicate (bs.take i).length true))).set (off + i) _ = List.map _ (splice F.k off (List.replicate (bs.take (i + 1)).length true))
      have h := splice_set F.k off (List.replicate bs.length true) i true (by simp [hi]) (by simp; omega)
      rw [List.take_replicate, List.take_replicate, Nat.min_eq_left (by omega), Nat.min_eq_left (by omega)] at h
      rw [e1, e2, ← h, List.map_set]
    rw [this] at r2
    exact r2
  · rw [ed2]
    have : (bls (F.put off (bs.take i)).r).set (off + i) (.bool true) = bls (F.put off (bs.take (i + 1))).r := by
      show (List.map _ (splice F.r off (List.replicate (bs.take i).length true))).set (off + i) _ = List.map _ (splice F.r off (List.replicate (bs.take (i + 1)).length true))
      have h := splice_set F.r off (List.replicate bs.length true) i true (by simp [hi]) (by simp; omega)
      rw [List.take_replicate, List.take_replicate, Nat.min_eq_left (by omega), Nat.min_eq_left (by omega)] at h
      rw [e1, e2, ← h, List.map_set]
    rw [this] at r3
    exact r3

noncomputable def body16 : Code := ((Tryz.f32.body.bind firstLoop).getD .skip)

structure frm16p (s0 s2 s24 s25 s26 : Value) (a : Act) : Prop where
  df : a.defers = []
  sz : a.tmps.size = 57
  h0 : a.tmps.getD 0 undef = s0
  h2 : a.tmps.getD 2 undef = s2
  h24 : a.tmps.getD 24 undef = s24
  h25 : a.tmps.getD 25 undef = s25
  h26 : a.tmps.getD 26 undef = s26
set_option maxRecDepth 100000 in
theorem frm16 {s0 s2 s24 s25 s26 : Value} {a : Act} (h : frm16p s0 s2 s24 s25 s26 a) : ∃ u : Nat → Value, a = ⟨#[s0, u 1, s2, u 3, u 4, u 5, u 6, u 7, u 8, u 9, u 10, u 11, u 12, u 13, u 14, u 15, u 16, u 17, u 18, u 19, u 20, u 21, u 22, u 23, s24, s25, s26, u 27, u 28, u 29, u 30, u 31, u 32, u 33, u 34, u 35, u 36, u 37, u 38, u 39, u 40, u 41, u 42, u 43, u 44, u 45, u 46, u 47, u 48, u 49, u 50, u 51, u 52, u 53, u 54, u 55, u 56], []⟩ := by
  obtain ⟨F, df⟩ := a
  obtain ⟨rfl, hs, rfl, rfl, rfl, rfl, rfl⟩ := h
  refine ⟨fun i => F.getD i undef, ?_⟩
  have e := open_frame F
  rw [hs] at e
  exact congrArg (Act.mk · []) e

set_option maxRecDepth 100000 in
set_option maxHeartbeats 4000000 in
theorem write_loop (Q0 : Exit → Act → World → Prop) (Pr : Nat → Prop) (g : FP) (vd vk vw : Value) (F : Fl) (w : World) (off m c : Nat) (b : Option Addr) (bs : List UInt8) (A : Act) (h : FileIs Pr w g vd vk vw F) (hr : Rd Pr w b m bs) (hfit : off + m ≤ F.d.length) (hl : F.d.length ≤ 8589934592)
    (hA : frm16p (.pointer (some ⟨g.b, g.o, none⟩)) (.int .i64 (off : Int)) (.slice b m c) (.int .i64 (m : Int)) (.int .i64 ((0 : Nat) : Int)) A)
    (hmc : m ≤ c) (hexit : ∀ a' w', a'.defers = [] → FileIs Pr w' g vd vk vw (F.put off bs) → Keeps Pr w w' → Q0 (.exit 0) a' w') :
    Code.wp Tryz.prog (Code.loop body16) Q0 A w := by
  refine wp_loop_ghost (fun k a' w' => ∃ i : Nat, k = m - i ∧ i ≤ m ∧ frm16p (.pointer (some ⟨g.b, g.o, none⟩)) (.int .i64 (off : Int)) (.slice b m c) (.int .i64 (m : Int)) (.int .i64 (i : Int)) a' ∧
    FileIs Pr w' g vd vk vw (F.put off (bs.take i)) ∧ Keeps Pr w w') m ⟨0, rfl, Nat.zero_le _, hA, by simpa [Fl.put, splice_nil] using h, Keeps.refl _ _⟩ ?_
  rintro k a' w' ⟨i, rfl, hi, ha, hf, hk⟩
  obtain ⟨u, rfl⟩ := frm16 ha
  clear ha
  conv => arg 2; whnf
  by_cases hlt : i < m
  · obtain ⟨x, hx⟩ : ∃ x, bs[i]? = some x := ⟨_, List.getElem?_eq_getElem (by rw [hr.1]; exact hlt)⟩
    rcases (hr.keeps hk).2 with h0 | ⟨bb, o, rfl, hpb, hcb⟩
    · subst h0; simp at hx
    have hb := hcb i x hx
    have elen : (F.put off (bs.take i)).d.length = F.d.length := splice_length _ _ _ (by rw [List.length_take, hr.1]; omega)
    have hFlen : 0 < F.d.length := by omega
    obtain ⟨c0, c1, c2, f0, f1, f2⟩ := hf.cells
    obtain ⟨gd, cd, rfl, hcd, -, -, dc, df⟩ := hf.v.rd.opened (by omega)
    obtain ⟨gk, ck, rfl, hck, -, -, kc, kf⟩ := hf.v.rk.opened (by omega)
    obtain ⟨gr, cr, rfl, hcr, -, -, rc, rf⟩ := hf.v.rw.opened (by omega)
    rw [elen] at c0 c1 c2 hcd hck hcr
    have nkr : gk ≠ gr := fun e => hf.v.ne gk rfl (by rw [e]; rfl)
    have ndk : gd ≠ gk := fun e => hf.v.rd.neRow hf.v.rk (by decide) rfl (by rw [e]; rfl)
    have ndr : gd ≠ gr := fun e => hf.v.rd.neRow hf.v.rw (by decide) rfl (by rw [e]; rfl)
    have nkd := ndk.symm
    have nrd := ndr.symm
    have nrk := nkr.symm
    have hd0 := dc (off + i) (by rw [elen]; omega)
    have hk0 := kc (off + i) (by rw [elen]; omega)
    have hr0 := rc (off + i) (by rw [elen]; omega)
    obtain ⟨y0, z0⟩ : ∃ y, (u8s (F.put off (bs.take i)).d)[off + i]? = some y := ⟨_, List.getElem?_eq_getElem (by rw [List.length_map, elen]; omega)⟩
    obtain ⟨y1, z1⟩ : ∃ y, (bls (F.put off (bs.take i)).k)[off + i]? = some y := ⟨_, List.getElem?_eq_getElem (by rw [List.length_map, hf.v.lk, elen]; omega)⟩
    obtain ⟨y2, z2⟩ : ∃ y, (bls (F.put off (bs.take i)).r)[off + i]? = some y := ⟨_, List.getElem?_eq_getElem (by rw [List.length_map, hf.v.lr, elen]; omega)⟩
    rw [z0] at hd0
    rw [z1] at hk0
    rw [z2] at hr0
    have df0 := df (off + i)
    have kf0 := kf (off + i)
    have rf0 := rf (off + i)
    have HF := Lib.hid hf
    have HK := Lib.hid hk
    have HX := Lib.hid hx
    have HR := Lib.hid hr
    have HH := Lib.hid h
    have HE := Lib.hid hexit
    have EL := Lib.hid elen
    clear z0 z1 z2 hf hk hx hr h hexit elen dc kc rc df kf rf hcb hA
    (repeat (first | go_values | go_skip | go_guarded | go_step | go_upon))
    refine wp_blind ?_
    go_region
    simp only [onlyNormal]
    (repeat (first | go_values | go_skip | go_guarded | go_step | go_upon))
    refine ⟨m - (i + 1), by omega, i + 1, rfl, by omega, ⟨rfl, rfl, rfl, rfl, rfl, rfl, by go_num⟩, ?_, ?_⟩
    · exact (put_step HF.out nkr ndk ndr HX.out (by rw [HR.out.1]; exact hfit)).drew
    · have ng := fun (k : Nat) (h : Pr k) => h
      refine (((HK.out.trans (Keeps.setCell (a := ⟨gd, off + i, none⟩) (HF.out.v.rd.own (k := gd) rfl).2.1 _)).trans (Keeps.setCell (a := ⟨gk, off + i, none⟩) (HF.out.v.rk.own (k := gk) rfl).2.1 _)).trans (Keeps.setCell (a := ⟨gr, off + i, none⟩) (HF.out.v.rw.own (k := gr) rfl).2.1 _)).trans (Keeps.drew _ _)
  · obtain rfl : i = m := by omega
    have HF := Lib.hid hf
    have HK := Lib.hid hk
    have HE := Lib.hid hexit
    have HR := Lib.hid hr
    clear hf hk hexit hA h hr
    (repeat (first | go_values | go_skip | go_guarded | go_step | go_upon))
    have hF := HF.out
    rw [List.take_of_length_le (by rw [HR.out.1]; exact Nat.le_refl _)] at hF
    exact HE.out _ _ rfl hF HK.out

theorem Fl.size_length (n : Nat) (F : Fl) : (F.size n).d.length = n := by
  simp only [Fl.size, List.length_append, List.length_take, List.length_replicate]; omega
theorem Fl.write_length (F : Fl) (off : Nat) (bs : List UInt8) : (F.write off bs).d.length = max F.d.length (off + bs.length) := by
  unfold Fl.write
  split
  · have e := Fl.size_length (off + bs.length) F
    rw [show ((F.size (off + bs.length)).put off bs).d.length = (F.size (off + bs.length)).d.length from splice_length _ _ _ (by omega), e]
    omega
  · rw [show (F.put off bs).d.length = F.d.length from splice_length _ _ _ (by omega)]
    omega

set_option maxRecDepth 100000 in
set_option maxHeartbeats 4000000 in
theorem write_any (Pr : Nat → Prop) (g : FP) (vd vk vw : Value) (F : Fl) (w : World) (off m c : Nat) (b : Option Addr) (bs : List UInt8) (hin : Inw Pr w) (h : FileIs Pr w g vd vk vw F) (hr : Rd Pr w b m bs) (hmc : m ≤ c) (hl : F.d.length ≤ 4294967296) (ho : off ≤ 2147483648) (hm : m ≤ 2147483648) :
    Calls Tryz.prog 32 #[.pointer (some ⟨g.b, g.o, none⟩), .slice b m c, .int .i64 (off : Int)] w fun e w' => e = .returned (.tuple #[]) ∧ ∃ vd' vk' vw', FileIs Pr w' g vd' vk' vw' (F.write off bs) ∧ Keeps Pr w w' := by
  obtain ⟨c0, -⟩ := h.cells
  have hm' := hr.1
  obtain ⟨a, ca, rfl, -⟩ := h.v.rd.slice
  have H := Lib.hid h
  have HI := Lib.hid hin
  have HR := Lib.hid hr
  have HM := Lib.hid hm'
  clear h hin hr hm'
  by_cases hlt : F.d.length < off + m
  · go_enter Tryz.func32, Tryz.ntmps32
    (repeat (first | go_values | go_skip | go_guarded | go_step | go_upon))
    refine (size_any Pr g _ vk vw F w (off + m) HI.out H.out (by omega)).mono ?_
    rintro e w' ⟨rfl, vd', vk', vw', hf, hk⟩
    have HF := Lib.hid hf
    have HK := Lib.hid hk
    clear hf hk
    dsimp only
    (repeat (first | go_values | go_skip | go_guarded | go_step | go_upon))
    have el : (F.size (off + m)).d.length = off + m := Fl.size_length _ _
    refine write_loop _ Pr g vd' vk' vw' (F.size (off + m)) w' off m c b bs _ HF.out (HR.out.keeps HK.out) (by omega) (by omega) ⟨rfl, rfl, rfl, rfl, rfl, rfl, rfl⟩ hmc ?_
    intro a' w2 hd hf2 hk2
    have e : F.write off bs = (F.size (off + m)).put off bs := by unfold Fl.write; rw [HM.out, if_pos hlt]
    rw [← e] at hf2
    simp only [Exit.inBlock, ↓reduceIte]
    exact bodyPost_end (results_none rfl _ _ _) hd ⟨rfl, _, _, _, hf2, HK.out.trans hk2⟩
  · go_enter Tryz.func32, Tryz.ntmps32
    (repeat (first | go_values | go_skip | go_guarded | go_step | go_upon))
    refine write_loop _ Pr g _ vk vw F w off m c b bs _ H.out HR.out (by omega) (by omega) ⟨rfl, rfl, rfl, rfl, rfl, rfl, rfl⟩ hmc ?_
    intro a' w2 hd hf2 hk2
    have e : F.write off bs = F.put off bs := by unfold Fl.write; rw [HM.out, if_neg hlt]
    rw [← e] at hf2
    simp only [Exit.inBlock, ↓reduceIte]
    exact bodyPost_end (results_none rfl _ _ _) hd ⟨rfl, _, _, _, hf2, hk2⟩

end Go.Proofs.YtkkliejgmgmebaaGreatDoor

namespace Go.Proofs.YtkkliejgmgmebaaGreatDoor
open Go.RowKit

/-- a file that has these bytes -/
def Fl.new (bs : List UInt8) : Fl := ⟨bs, List.replicate bs.length true, List.replicate bs.length false⟩

theorem Fl.write_empty (bs : List UInt8) : (⟨[], [], []⟩ : Fl).write 0 bs = ⟨bs, List.replicate bs.length true, List.replicate bs.length true⟩ := by
  unfold Fl.write
  split
  · rename_i h
    simp only [Fl.size, Fl.put, splice, List.take_nil, List.nil_append, List.length_nil, Nat.sub_zero, Nat.zero_add, List.take_zero, List.drop_replicate, List.length_replicate, Nat.sub_self, List.replicate_zero, List.append_nil]
  · rename_i h
    have : bs = [] := List.eq_nil_of_length_eq_zero (by simp only [List.length_nil] at h; omega)
    subst this
    rfl

theorem FileVal.empty (Pr : Nat → Prop) (w : World) : FileVal Pr w (.slice none 0 0) (.slice none 0 0) (.slice none 0 0) ⟨[], [], []⟩ :=
  ⟨Row.nil _ _ _ _, Row.nil _ _ _ _, Row.nil _ _ _ _, fun k h => by cases h⟩

/-- what is kept besides -/
abbrev also (Pr : Nat → Prop) (g : Nat) : Nat → Prop := fun k => Pr k ∨ k = g

theorem Rd.mono {Pr Pr' : Nat → Prop} {w : World} {a : Option Addr} {n : Nat} {bs : List UInt8} (h : Rd Pr w a n bs) (hp : ∀ k, Pr k → Pr' k) : Rd Pr' w a n bs := by
  refine ⟨h.1, ?_⟩
  rcases h.2 with h0 | ⟨b, o, rfl, hb, hc⟩
  · exact .inl h0
  · exact .inr ⟨b, o, rfl, hp b hb, hc⟩

theorem FileVal.mono {Pr Pr' : Nat → Prop} {w : World} {vd vk vw : Value} {F : Fl} (h : FileVal Pr w vd vk vw F) (hp : ∀ k, Pr' k → Pr k) : FileVal Pr' w vd vk vw F :=
  h.widen fun k _ hn hk => hn (hp k hk)
theorem FileIs.mono {Pr Pr' : Nat → Prop} {w : World} {g : FP} {vd vk vw : Value} {F : Fl} (h : FileIs Pr w g vd vk vw F) (hp : ∀ k, Pr' k → Pr k) : FileIs Pr' w g vd vk vw F :=
  h.widen fun k _ hn hk => hn (hp k hk)

set_option maxRecDepth 100000 in
set_option maxHeartbeats 4000000 in
theorem newFile_any (Pr : Nat → Prop) (w : World) (m c : Nat) (b : Option Addr) (bs : List UInt8) (hin : Inw Pr w) (hr : Rd Pr w b m bs) (hmc : m ≤ c) (hm : m ≤ 2147483648) :
    Calls Tryz.prog 21 #[.slice b m c] w fun e w' => ∃ vd vk vw, e = .returned (.agg #[vd, vk, vw]) ∧ FileVal Pr w' vd vk vw (Fl.new bs) ∧ Keeps Pr w w' := by
  have HI := Lib.hid hin
  have HR := Lib.hid hr
  clear hin hr
  go_enter Tryz.func21, Tryz.ntmps21
  (repeat (first | go_values | go_skip | go_guarded | go_step | go_upon))
  have hg0 := heap_alloc2_old w (.cells #[.slice none 0 0, .slice none 0 0, .slice none 0 0] 34) (.cells #[.slice none 0 0, .slice none 0 0, .slice none 0 0] 34)
  have hg1 := heap_alloc2_new w (.cells #[.slice none 0 0, .slice none 0 0, .slice none 0 0] 34) (.cells #[.slice none 0 0, .slice none 0 0, .slice none 0 0] 34)
  have hk0 : Keeps Pr w ((w.alloc (.cells #[.slice none 0 0, .slice none 0 0, .slice none 0 0] 34)).alloc (.cells #[.slice none 0 0, .slice none 0 0, .slice none 0 0] 34)) :=
    (Keeps.alloc HI.out _).trans (Keeps.alloc (HI.out.mono (by simp)) _)
  have hs : ((w.alloc (.cells #[.slice none 0 0, .slice none 0 0, .slice none 0 0] 34)).alloc (.cells #[.slice none 0 0, .slice none 0 0, .slice none 0 0] 34)).heap.size = w.heap.size + 2 := by simp
  generalize ((w.alloc (.cells #[.slice none 0 0, .slice none 0 0, .slice none 0 0] 34)).alloc (.cells #[.slice none 0 0, .slice none 0 0, .slice none 0 0] 34)) = W1 at *
  have hi1 : Inw (also Pr w.heap.size) W1 := fun k hk => by
    rcases hk with h | h
    · have := HI.out k h; omega
    · omega
  have hf0 : FileIs (also Pr w.heap.size) W1 (FP.one (w.heap.size + 1)) (.slice none 0 0) (.slice none 0 0) (.slice none 0 0) ⟨[], [], []⟩ := by
    refine ⟨hg1, rfl, ?_, FileVal.empty _ _⟩
    show ¬ also Pr w.heap.size (w.heap.size + 1)
    rintro (h | h)
    · have := HI.out _ h; omega
    · omega
  refine (write_any (also Pr w.heap.size) (FP.one (w.heap.size + 1)) _ _ _ ⟨[], [], []⟩ W1 0 m c b bs hi1 hf0 ((HR.out.keeps hk0).mono fun _ h => .inl h) hmc (by simp) (by omega) hm).mono ?_
  rintro e w2 ⟨rfl, vd, vk, vw, hf2, hk2⟩
  rw [Fl.write_empty] at hf2
  have hl : bs.length ≤ 8589934592 := by have := HR.out.1; omega
  have HG0 := Lib.hid ((hk2.block _ (.inr rfl)).trans hg0)
  have HF2 := Lib.hid hf2
  have HK2 := Lib.hid (hk0.trans (hk2.mono fun _ h => .inl h))
  have HI2 := Lib.hid (hk2.inw hi1)
  clear hf2 hk2 hi1 hf0 hg0 hg1 hk0 hs
  dsimp only
  (repeat (first | go_values | go_skip | go_guarded | go_step | go_upon))
  refine (kept_any (also Pr w.heap.size) (FP.one (w.heap.size + 1)) vd vk vw _ w2 HI2.out HF2.out hl).mono ?_
  rintro e w3 ⟨rfl, vw', hf3, hk3⟩
  obtain ⟨a1, c1, rfl, -⟩ := hf3.v.rd.slice
  obtain ⟨a2, c2, rfl, -⟩ := hf3.v.rk.slice
  obtain ⟨a3, c3, rfl, -⟩ := hf3.v.rw.slice
  obtain ⟨d0, d1, d2, -⟩ := hf3.cells
  have hg0 := (hk3.block _ (.inr rfl)).trans HG0.out
  obtain ⟨e0, e1, e2, e3, e4, e5⟩ := (FileIs.cells (Pr := fun _ => False) (g := FP.one w.heap.size) (F := ⟨[], [], []⟩) ⟨hg0, rfl, fun h => h, FileVal.empty _ _⟩)
  have HG := Lib.hid hg0
  have HF3 := Lib.hid hf3
  have HK3 := Lib.hid (HK2.out.trans (hk3.mono fun _ h => .inl h))
  clear hf3 hk3 hg0
  dsimp only
  (repeat (first | go_values | go_skip | go_guarded | go_step | go_upon))
  obtain ⟨hF, hK⟩ := file_store3 (g := FP.one w.heap.size) HG.out rfl HI.out.new (HF3.out.v.mono (Pr' := Pr) fun _ h => .inl h)
  exact bodyPost_ret (results_cell_row rfl _ _ w.heap.size 34 _ _ _ rfl hF.cell Tryz.underlying34 rfl (by kernel_rfl)) rfl ⟨_, _, _, rfl, hF.v, HK3.out.trans hK⟩

end Go.Proofs.YtkkliejgmgmebaaGreatDoor
