/-
  NewFile.
-/
import Derived.Test.YtkkliejgmgmebaaDoorS4
import Derived.Test.YtkkliejgmgmebaaDoorS1
namespace Go.Proofs.YtkkliejgmgmebaaDoor
open Go.RowKit

/-- a file that has these bytes -/
def Fl.new (bs : List UInt8) : Fl := ⟨bs, List.replicate bs.length true, List.replicate bs.length false⟩

theorem Fl.write_empty (bs : List UInt8) : (⟨[], [], []⟩ : Fl).write 0 bs = ⟨bs, List.replicate bs.length true, List.replicate bs.length true⟩ := by
  unfold Fl.write
  split
  · rename_i h
    simp only [Fl.size, Fl.put, splice, List.take_nil, List.nil_append, List.length_nil, Nat.sub_zero, Nat.zero_add, List.take_zero, List.drop_replicate, List.length_replicate, Nat.sub_self, List.replicate_zero, List.append_nil]
  · rename_i h
    have : bs = [] := List.eq_nil_of_length_eq_zero (by simp only [List.length_nil] at h; omega)
    subst this
    rfl

theorem FileVal.empty (Pr : Nat → Prop) (w : World) : FileVal Pr w (.slice none 0 0) (.slice none 0 0) (.slice none 0 0) ⟨[], [], []⟩ :=
  ⟨Row.nil _ _ _ _, Row.nil _ _ _ _, Row.nil _ _ _ _, fun k h => by cases h⟩

/-- what is kept besides -/
abbrev also (Pr : Nat → Prop) (g : Nat) : Nat → Prop := fun k => Pr k ∨ k = g

theorem Rd.mono {Pr Pr' : Nat → Prop} {w : World} {a : Option Addr} {n : Nat} {bs : List UInt8} (h : Rd Pr w a n bs) (hp : ∀ k, Pr k → Pr' k) : Rd Pr' w a n bs := by
  refine ⟨h.1, ?_⟩
  rcases h.2 with h0 | ⟨b, o, rfl, hb, hc⟩
  · exact .inl h0
  · exact .inr ⟨b, o, rfl, hp b hb, hc⟩

theorem FileVal.mono {Pr Pr' : Nat → Prop} {w : World} {vd vk vw : Value} {F : Fl} (h : FileVal Pr w vd vk vw F) (hp : ∀ k, Pr' k → Pr k) : FileVal Pr' w vd vk vw F :=
  h.widen fun k _ hn hk => hn (hp k hk)
theorem FileIs.mono {Pr Pr' : Nat → Prop} {w : World} {g : Nat} {vd vk vw : Value} {F : Fl} (h : FileIs Pr w g vd vk vw F) (hp : ∀ k, Pr' k → Pr k) : FileIs Pr' w g vd vk vw F :=
  h.widen fun k _ hn hk => hn (hp k hk)

set_option maxRecDepth 100000 in
set_option maxHeartbeats 4000000 in
theorem newFile_any (Pr : Nat → Prop) (w : World) (m c : Nat) (b : Option Addr) (bs : List UInt8) (hin : Inw Pr w) (hr : Rd Pr w b m bs) (hmc : m ≤ c) (hm : m ≤ 1000000) :
    Calls Tryd.prog 6 #[.slice b m c] w fun e w' => ∃ vd vk vw, e = .returned (.agg #[vd, vk, vw]) ∧ FileVal Pr w' vd vk vw (Fl.new bs) ∧ Keeps Pr w w' := by
  have HI := Lib.hid hin
  have HR := Lib.hid hr
  clear hin hr
  go_enter Tryd.func6, Tryd.ntmps6
  (repeat (first | go_values | go_skip | go_guarded | go_step | go_upon))
  have hg0 := heap_alloc2_old w (.cells #[.slice none 0 0, .slice none 0 0, .slice none 0 0] 27) (.cells #[.slice none 0 0, .slice none 0 0, .slice none 0 0] 27)
  have hg1 := heap_alloc2_new w (.cells #[.slice none 0 0, .slice none 0 0, .slice none 0 0] 27) (.cells #[.slice none 0 0, .slice none 0 0, .slice none 0 0] 27)
  have hk0 : Keeps Pr w ((w.alloc (.cells #[.slice none 0 0, .slice none 0 0, .slice none 0 0] 27)).alloc (.cells #[.slice none 0 0, .slice none 0 0, .slice none 0 0] 27)) :=
    (Keeps.alloc HI.out _).trans (Keeps.alloc (HI.out.mono (by simp)) _)
  have hs : ((w.alloc (.cells #[.slice none 0 0, .slice none 0 0, .slice none 0 0] 27)).alloc (.cells #[.slice none 0 0, .slice none 0 0, .slice none 0 0] 27)).heap.size = w.heap.size + 2 := by simp
  generalize ((w.alloc (.cells #[.slice none 0 0, .slice none 0 0, .slice none 0 0] 27)).alloc (.cells #[.slice none 0 0, .slice none 0 0, .slice none 0 0] 27)) = W1 at *
  have hi1 : Inw (also Pr w.heap.size) W1 := fun k hk => by
    rcases hk with h | h
    · have := HI.out k h; omega
    · omega
  have hf0 : FileIs (also Pr w.heap.size) W1 (w.heap.size + 1) (.slice none 0 0) (.slice none 0 0) (.slice none 0 0) ⟨[], [], []⟩ := by
    refine ⟨hg1, ?_, FileVal.empty _ _⟩
    rintro (h | h)
    · have := HI.out _ h; omega
    · omega
  refine (write_any (also Pr w.heap.size) (w.heap.size + 1) _ _ _ ⟨[], [], []⟩ W1 0 m c b bs hi1 hf0 ((HR.out.keeps hk0).mono fun _ h => .inl h) hmc (by simp) (by omega) hm).mono ?_
  rintro e w2 ⟨rfl, vd, vk, vw, hf2, hk2⟩
  rw [Fl.write_empty] at hf2
  have hl : bs.length ≤ 100000000 := by have := HR.out.1; omega
  have HG0 := Lib.hid ((hk2.block _ (.inr rfl)).trans hg0)
  have HF2 := Lib.hid hf2
  have HK2 := Lib.hid (hk0.trans (hk2.mono fun _ h => .inl h))
  have HI2 := Lib.hid (hk2.inw hi1)
  clear hf2 hk2 hi1 hf0 hg0 hg1 hk0 hs
  dsimp only
  (repeat (first | go_values | go_skip | go_guarded | go_step | go_upon))
  refine (kept_any (also Pr w.heap.size) (w.heap.size + 1) vd vk vw _ w2 HI2.out HF2.out hl).mono ?_
  rintro e w3 ⟨rfl, vw', hf3, hk3⟩
  obtain ⟨a1, c1, rfl, -⟩ := hf3.v.rd.slice
  obtain ⟨a2, c2, rfl, -⟩ := hf3.v.rk.slice
  obtain ⟨a3, c3, rfl, -⟩ := hf3.v.rw.slice
  obtain ⟨d0, d1, d2, -⟩ := hf3.cells
  have hg0 := (hk3.block _ (.inr rfl)).trans HG0.out
  obtain ⟨e0, e1, e2, e3, e4, e5⟩ := (FileIs.cells (Pr := fun _ => False) (F := ⟨[], [], []⟩) ⟨hg0, fun h => h, FileVal.empty _ _⟩)
  have HG := Lib.hid hg0
  have HF3 := Lib.hid hf3
  have HK3 := Lib.hid (HK2.out.trans (hk3.mono fun _ h => .inl h))
  clear hf3 hk3 hg0
  dsimp only
  (repeat (first | go_values | go_skip | go_guarded | go_step | go_upon))
  obtain ⟨hF, hK⟩ := file_store3 HG.out HI.out.new (HF3.out.v.mono (Pr' := Pr) fun _ h => .inl h)
  exact bodyPost_ret (results_cell_row rfl _ _ w.heap.size 27 _ _ _ rfl hF.cell Tryd.underlying27 rfl (by kernel_rfl)) rfl ⟨_, _, _, rfl, hF.v, HK3.out.trans hK⟩

end Go.Proofs.YtkkliejgmgmebaaDoor
