/-
  File.size.
-/
import Derived.Test.YtkkliejgmgmebaaDoorS2
import Derived.Deep.LoopGhost
namespace Go.Proofs.YtkkliejgmgmebaaDoor
open Go.RowKit

/-- a file, made as long as it is told -/
def Fl.size (n : Nat) (F : Fl) : Fl := ⟨F.d.take n ++ List.replicate (n - F.d.length) 0, F.k.take n ++ List.replicate (n - F.d.length) true, F.r.take n ++ List.replicate (n - F.d.length) false⟩

/-- j zeros more -/
def Fl.more (j : Nat) (F : Fl) : Fl := ⟨F.d ++ List.replicate j 0, F.k ++ List.replicate j true, F.r ++ List.replicate j false⟩

theorem Fl.more_succ (j : Nat) (F : Fl) : (⟨(F.more j).d ++ [0], (F.more j).k ++ [true], (F.more j).r ++ [false]⟩ : Fl) = F.more (j + 1) := by
  simp only [Fl.more, List.append_assoc, ← List.replicate_succ']

theorem Fl.more_take (n j : Nat) (F : Fl) (hk : F.k.length = F.d.length) (hr : F.r.length = F.d.length) (hn : n ≤ F.d.length + j) : (⟨(F.more j).d.take n, (F.more j).k.take n, (F.more j).r.take n⟩ : Fl) = F.size n := by
  have hm : min (n - F.d.length) j = n - F.d.length := by omega
  simp only [Fl.more, Fl.size, List.take_append, List.take_replicate, hk, hr, hm]

theorem own_len (a : Option Addr) (n c n' c' : Nat) : (Value.slice a n c).ownBlock = (Value.slice a n' c').ownBlock := by cases a <;> rfl

theorem FileVal.cut {Pr : Nat → Prop} {w : World} {a b b' : Option Addr} {l c c' c'' : Nat} {F : Fl} (h : FileVal Pr w (.slice a l c) (.slice b l c') (.slice b' l c'') F) (n : Nat) (hl : F.d.length = l) (hn : n ≤ l) :
    FileVal Pr w (.slice a n c) (.slice b n c') (.slice b' n c'') ⟨F.d.take n, F.k.take n, F.r.take n⟩ := by
  obtain ⟨_, _, e0, h0, -⟩ := h.rd.slice
  obtain ⟨_, _, e1, h1, -⟩ := h.rk.slice
  obtain ⟨_, _, e2, h2, -⟩ := h.rw.slice
  simp only [Value.slice.injEq] at e0 e1 e2
  obtain ⟨rfl, -, rfl⟩ := e0
  obtain ⟨rfl, -, rfl⟩ := e1
  obtain ⟨rfl, -, rfl⟩ := e2
  subst hl
  have e : (F.d.take n).length = n := by rw [List.length_take]; omega
  refine ⟨?_, ?_, ?_, fun k h1 h2 => h.ne k ((own_len b _ _ _ _).trans h1) ((own_len b' _ _ _ _).trans h2)⟩
  · have := h.rd.cut n c hn (by omega) (Nat.le_refl _)
    rw [Nat.mul_one, ← List.map_take] at this
    rw [e]; exact this
  · have := h.rk.cut n c' hn (by omega) (Nat.le_refl _)
    rw [Nat.mul_one, ← List.map_take] at this
    rw [e]; exact this
  · have := h.rw.cut n c'' hn (by omega) (Nat.le_refl _)
    rw [Nat.mul_one, ← List.map_take] at this
    rw [e]; exact this

set_option maxRecDepth 100000 in
theorem size_r1' (Pr : Nat → Prop) (g : Nat) (vd vk vw : Value) (F : Fl) (W : World) (n : Int) (a : Act) (ha : frm18p (.pointer (some ⟨g, 0, none⟩)) (.int .i64 n) a) (hin : Inw Pr W) (h : FileIs Pr W g vd vk vw F) (hl : F.d.length ≤ 100000000) :
    Code.wp Tryd.prog reg18 (fun e a' w' => e = .normal ∧ frm18p (.pointer (some ⟨g, 0, none⟩)) (.int .i64 n) a' ∧
      ∃ vd' vk' vw', FileIs Pr w' g vd' vk' vw' ⟨F.d ++ [0], F.k ++ [true], F.r ++ [false]⟩ ∧ Keeps Pr W w') a W := by
  obtain ⟨u, rfl⟩ := frm18 ha
  exact size_r1 Pr g vd vk vw F W n u hin h hl

set_option maxRecDepth 100000 in
set_option maxHeartbeats 4000000 in
theorem size_any (Pr : Nat → Prop) (g : Nat) (vd vk vw : Value) (F : Fl) (w : World) (n : Nat) (hin : Inw Pr w) (h : FileIs Pr w g vd vk vw F) (hn : n ≤ 10000000) :
    Calls Tryd.prog 18 #[.pointer (some ⟨g, 0, none⟩), .int .i64 (n : Int)] w fun e w' => e = .returned (.tuple #[]) ∧ ∃ vd' vk' vw', FileIs Pr w' g vd' vk' vw' (F.size n) ∧ Keeps Pr w w' := by
  have H := Lib.hid h
  have HI := Lib.hid hin
  clear h hin
  go_enter Tryd.func18, Tryd.ntmps18
  (repeat (first | go_values | go_skip | go_guarded | go_step | go_upon))
  refine wp_loop_ghost (fun m a' w' => frm18p (.pointer (some ⟨g, 0, none⟩)) (.int .i64 (n : Int)) a' ∧ ∃ j vd vk vw, m = n - (F.d.length + j) ∧ (j = 0 ∨ F.d.length + j ≤ n) ∧ FileIs Pr w' g vd vk vw (F.more j) ∧ Keeps Pr w w') (n - F.d.length) ⟨⟨rfl, rfl, rfl, rfl⟩, 0, vd, vk, vw, rfl, .inl rfl, ?_, Keeps.refl _ _⟩ ?_
  · have := H.out
    simpa [Fl.more] using this
  rintro m a' w' ⟨ha, j, vd, vk, vw, hm, hj, hf, hk⟩
  obtain ⟨u, rfl⟩ := frm18 ha
  obtain ⟨c0, c1, c2, f0, f1, f2⟩ := hf.cells
  have hlen : (F.more j).d.length = F.d.length + j := by simp [Fl.more]
  obtain ⟨a, c, rfl, hac, -⟩ := hf.v.rd.slice
  rw [hlen] at c0 hac
  have HF := Lib.hid hf
  have HK := Lib.hid hk
  have HM := Lib.hid hm
  have HL := Lib.hid hlen
  clear hf hk hm ha hlen
  by_cases hlt : F.d.length + j < n
  · (repeat (first | go_values | go_skip | go_guarded | go_step | go_upon))
    refine Code.wp_mono ?_ (size_r1' Pr g _ vk vw (F.more j) w' n _ ⟨rfl, rfl, rfl, rfl⟩ (HI.out.mono HK.out.size) HF.out (by rw [HL.out]; omega))
    rintro e a2 w2 ⟨rfl, ha2, vd', vk', vw', hf2, hk2⟩
    refine ⟨n - (F.d.length + (j + 1)), by have := HM.out; omega, ha2, j + 1, vd', vk', vw', rfl, .inr (by omega), ?_, HK.out.trans hk2⟩
    rw [Fl.more_succ] at hf2
    exact hf2
  · (repeat (first | go_values | go_skip | go_guarded | go_step | go_upon))
    have h0 : (0 : Int) ≤ n := by omega
    have hcm : (n : Int) ≤ c := by omega
    obtain ⟨b, c', rfl, hbc, -⟩ := HF.out.v.rk.slice
    obtain ⟨b', c'', rfl, hbc', -⟩ := HF.out.v.rw.slice
    rw [HL.out] at c1 c2 hbc hbc'
    have h1m : (n : Int) ≤ c' := by omega
    have h2m : (n : Int) ≤ c'' := by omega
    go_region
    have hv := HF.out.v.cut n rfl (by rw [HL.out]; omega)
    rw [Fl.more_take n j F (by have := HF.out.v.lk; simp [Fl.more] at this; exact this) (by have := HF.out.v.lr; simp [Fl.more] at this; exact this) (by omega)] at hv
    obtain ⟨hF, hK⟩ := file_store3 HF.out.cell HF.out.ng hv
    exact bodyPost_end (results_none rfl _ _ _) rfl ⟨rfl, _, _, _, hF.drew, (HK.out.trans hK).trans (Keeps.drew _ _)⟩

end Go.Proofs.YtkkliejgmgmebaaDoor
