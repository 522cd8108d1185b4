/-
  impl.value at every scalar of which something is said; impl.values.
-/
import Derived.Test.YtaoonpncnahhgaaDoorC3
import Derived.Test.YtaoonpncnahhgaaDoorW9
namespace Go.Proofs.YtaoonpncnahhgaaDoor
open Go.RowKit

theorem rdB5.below {B B' : Nat} {w w' : World} {a : Option Addr} {n : Nat} {bs : List UInt8} (h : rdB5 B w a n bs) (hb : Below B' w w') (hB : B ≤ B') (hs : w.heap.size ≤ B') : rdB5 B w' a n bs :=
  ⟨h.1.below hb hB, h.2.imp id fun ⟨b, o, cur, fr, e, hlt, hg⟩ => ⟨b, o, cur, fr, e, Nat.lt_of_lt_of_le hlt hb.size, (hb.block b (Nat.lt_of_lt_of_le hlt hs)).trans hg⟩⟩
theorem avIs_below {B B' : Nat} {w w' : World} {x : AV} {v : Value} (h : avIs B w x v) (hb : Below B' w w') (hB : B ≤ B') (hs : w.heap.size ≤ B') : avIs B w' x v := by
  cases x with
  | byt bs => obtain ⟨a, n, c, e, h1, h2, h3⟩ := h; exact ⟨a, n, c, e, h1, h2, h3.below hb hB hs⟩
  | _ => exact h
theorem avIs_mono {B B' : Nat} {w : World} {x : AV} {v : Value} (h : avIs B w x v) (hB : B ≤ B') : avIs B' w x v := by
  cases x with
  | byt bs => obtain ⟨a, n, c, e, h1, h2, h3⟩ := h; exact ⟨a, n, c, e, h1, h2, rdB_mono h3.1 hB, h3.2⟩
  | _ => exact h

/-- what okS says, kind by kind -/
structure OkFacts (s : Sc) : Prop where
  k0 : 0 ≤ s.kind
  k1 : s.kind ≤ 17
  bo : s.kind = 1 → s.int = 0 ∨ s.int = 1
  i8 : s.kind = 2 → -128 ≤ s.int ∧ s.int ≤ 127
  i16 : s.kind = 3 → -32768 ≤ s.int ∧ s.int ≤ 32767
  i32 : s.kind = 4 → -2147483648 ≤ s.int ∧ s.int ≤ 2147483647
  u8 : s.kind = 7 → s.uint < 256
  u16 : s.kind = 8 → s.uint < 65536
  u32 : s.kind = 9 → s.uint < 4294967296
  fl : s.kind = 12 ∨ s.kind = 14 → floatToFloatBits .f64 s.a .f32 = some (down s.a) ∧ floatToFloatBits .f32 (down s.a) .f64 = some s.a ∧ floatToFloatBits .f64 s.b .f32 = some (down s.b) ∧ floatToFloatBits .f32 (down s.b) .f64 = some s.b

theorem down_of {a : Nat} (ha : a < 18446744073709551616) (h29 : a % 536870912 = 0) (hn : narrowB a = true) : floatToFloatBits .f64 a .f32 = some (down a) ∧ floatToFloatBits .f32 (down a) .f64 = some a := by
  obtain ⟨d, h1, h2⟩ := narrow_down a ha h29 (by
    unfold narrowB at hn
    unfold narrowP
    simp only [Bool.or_eq_true, Bool.and_eq_true, beq_iff_eq, decide_eq_true_eq] at hn
    exact hn)
  have : down a = d := by unfold down; rw [h1]; rfl
  rw [this]
  exact ⟨h1, h2⟩

theorem okFacts {s : Sc} (hw : s.wf) (h : okS s = true) : OkFacts s := by
  obtain ⟨kd, it, u, fa, fb, ba, bn, bc, bs⟩ := s
  unfold okS at h
  simp only [Bool.and_eq_true, decide_eq_true_eq, Bool.not_eq_true'] at h
  obtain ⟨⟨h0, h17⟩, ⟨⟨hb1, hb2⟩, hb3⟩, hb4⟩ := h
  have ha := hw.a1
  have hb := hw.b1
  simp only at ha hb
  obtain ⟨q, rfl⟩ := Int.eq_ofNat_of_zero_le h0
  simp only [Int.toNat_natCast] at hb1 hb2 hb3 hb4
  refine ⟨h0, h17, fun e => ?_, fun e => ?_, fun e => ?_, fun e => ?_, fun e => ?_, fun e => ?_, fun e => ?_, fun e => ?_⟩ <;> simp only at e
  · obtain rfl : q = 1 := by omega
    unfold bad1 at hb1
    simp at hb1
    simp only
    by_cases h : it = 0
    · exact .inl h
    · exact .inr (hb1 h)
  · obtain rfl : q = 2 := by omega
    unfold bad2 at hb2
    simp [bitsAt] at hb2
    have := shift_in (d := 56) (by simpa using hb2) (by simp)
    simp only; omega
  · obtain rfl : q = 3 := by omega
    unfold bad2 at hb2
    simp [bitsAt] at hb2
    have := shift_in (d := 48) (by simpa using hb2) (by simp)
    simp only; omega
  · obtain rfl : q = 4 := by omega
    unfold bad2 at hb2
    simp [bitsAt] at hb2
    have := shift_in (d := 32) (by simpa using hb2) (by simp)
    simp only; omega
  · obtain rfl : q = 7 := by omega
    unfold bad3 at hb3
    simp [bitsAt] at hb3
    have := ushift_in (d := 56) (by simpa using hb3) (by simp)
    simp only; omega
  · obtain rfl : q = 8 := by omega
    unfold bad3 at hb3
    simp [bitsAt] at hb3
    have := ushift_in (d := 48) (by simpa using hb3) (by simp)
    simp only; omega
  · obtain rfl : q = 9 := by omega
    unfold bad3 at hb3
    simp [bitsAt] at hb3
    have := ushift_in (d := 32) (by simpa using hb3) (by simp)
    simp only; omega
  · have h4 : fa % 536870912 = 0 ∧ fb % 536870912 = 0 ∧ narrowB fa = true ∧ narrowB fb = true := by
      unfold bad4 at hb4
      rcases e with e | e
      · obtain rfl : q = 12 := by omega
        simp at hb4
        exact ⟨hb4.1.1.1, hb4.1.1.2, hb4.1.2, hb4.2⟩
      · obtain rfl : q = 14 := by omega
        simp at hb4
        exact ⟨hb4.1.1.1, hb4.1.1.2, hb4.1.2, hb4.2⟩
    have g1 := down_of ha h4.1 h4.2.2.1
    have g2 := down_of hb h4.2.1 h4.2.2.2
    exact ⟨g1.1, g1.2, g2.1, g2.2⟩

theorem value_any (s : Sc) (w : World) (hw : s.wf) (h : OkFacts s) (hbn : s.bn ≤ 2147483647) (hr : rdB w.heap.size w s.ba s.bn s.bytes) :
    Calls Tryd.prog 37 #[s.v] w fun e w' => ∃ v, e = .returned v ∧ Below w.heap.size w w' ∧ avIs w'.heap.size w' (avS s) v := by
  obtain ⟨kd, it, u, fa, fb, ba, bn, bc, bs⟩ := s
  obtain ⟨k0, k1, bo, i8, i16, i32, u8, u16, u32, fl⟩ := h
  have i0 := hw.i0
  have i1 := hw.i1
  have u1 := hw.u1
  simp only at *
  obtain rfl | rfl | rfl | rfl | rfl | rfl | rfl | rfl | rfl | rfl | rfl | rfl | rfl | rfl | rfl | rfl | rfl | rfl : kd = 0 ∨ kd = 1 ∨ kd = 2 ∨ kd = 3 ∨ kd = 4 ∨ kd = 5 ∨ kd = 6 ∨ kd = 7 ∨ kd = 8 ∨ kd = 9 ∨ kd = 10 ∨ kd = 11 ∨ kd = 12 ∨ kd = 13 ∨ kd = 14 ∨ kd = 15 ∨ kd = 16 ∨ kd = 17 := by omega
  · exact (va_nil it u fa fb ba bn bc w).mono fun e w' ⟨g1, g2⟩ => ⟨_, g1, g2, rfl⟩
  · exact (va_bool it u fa fb ba bn bc w).mono fun e w' ⟨g1, g2⟩ => ⟨_, g1, g2, rfl⟩
  · exact (va_i8 it u fa fb ba bn bc w (i8 rfl).1 (i8 rfl).2).mono fun e w' ⟨g1, g2⟩ => ⟨_, g1, g2, rfl⟩
  · exact (va_i16 it u fa fb ba bn bc w (i16 rfl).1 (i16 rfl).2).mono fun e w' ⟨g1, g2⟩ => ⟨_, g1, g2, rfl⟩
  · exact (va_i32 it u fa fb ba bn bc w (i32 rfl).1 (i32 rfl).2).mono fun e w' ⟨g1, g2⟩ => ⟨_, g1, g2, rfl⟩
  · exact (va_int it u fa fb ba bn bc w i0 i1).mono fun e w' ⟨g1, g2⟩ => ⟨_, g1, g2, rfl⟩
  · exact (va_i64 it u fa fb ba bn bc w i0 i1).mono fun e w' ⟨g1, g2⟩ => ⟨_, g1, g2, rfl⟩
  · exact (va_u8 it u fa fb ba bn bc w (u8 rfl)).mono fun e w' ⟨g1, g2⟩ => ⟨_, g1, g2, rfl⟩
  · exact (va_u16 it u fa fb ba bn bc w (u16 rfl)).mono fun e w' ⟨g1, g2⟩ => ⟨_, g1, g2, rfl⟩
  · exact (va_u32 it u fa fb ba bn bc w (u32 rfl)).mono fun e w' ⟨g1, g2⟩ => ⟨_, g1, g2, rfl⟩
  · exact (va_uint it u fa fb ba bn bc w u1).mono fun e w' ⟨g1, g2⟩ => ⟨_, g1, g2, rfl⟩
  · exact (va_u64 it u fa fb ba bn bc w u1).mono fun e w' ⟨g1, g2⟩ => ⟨_, g1, g2, rfl⟩
  · exact (va_f32 it u fa fb ba bn bc w _ (fl (.inl rfl)).1).mono fun e w' ⟨g1, g2⟩ => ⟨_, g1, g2, rfl⟩
  · exact (va_f64 it u fa fb ba bn bc w).mono fun e w' ⟨g1, g2⟩ => ⟨_, g1, g2, rfl⟩
  · exact (va_c64 it u fa fb ba bn bc w _ _ (fl (.inr rfl)).1 (fl (.inr rfl)).2.2.1).mono fun e w' ⟨g1, g2⟩ => ⟨_, g1, g2, rfl⟩
  · exact (va_c128 it u fa fb ba bn bc w).mono fun e w' ⟨g1, g2⟩ => ⟨_, g1, g2, rfl⟩
  · obtain ⟨hl, h2⟩ := hr
    rcases h2 with rfl | ⟨b, off, rfl, hb, hc⟩
    · simp only [List.length_nil] at hl
      subst hl
      exact (va_byt0 it u fa fb ba bc w).mono fun e w' ⟨⟨a, g1⟩, g2⟩ => ⟨_, g1, g2, some a, 0, 0, rfl, Nat.le_refl _, by omega, ⟨rfl, .inl rfl⟩, .inl rfl⟩
    · exact (va_byt it u fa fb b off bn bc bs w hl hb hc hbn).mono fun e w' ⟨⟨a, c, g1, g2, g3, g4⟩, g5⟩ => ⟨_, g1, g5, a, bn, c, rfl, g2, g3, g4⟩
  · exact (va_str it u fa fb ba bn bc bs w hr).mono fun e w' ⟨g1, g2⟩ => ⟨_, g1, g2, rfl⟩

theorem avS_wf (s : Sc) (hw : s.wf) (h : OkFacts s) : (avS s).wf := by
  obtain ⟨kd, it, u, fa, fb, ba, bn, bc, bs⟩ := s
  obtain ⟨k0, k1, bo, i8, i16, i32, u8, u16, u32, fl⟩ := h
  have i0 := hw.i0
  have i1 := hw.i1
  have u1 := hw.u1
  simp only at *
  obtain rfl | rfl | rfl | rfl | rfl | rfl | rfl | rfl | rfl | rfl | rfl | rfl | rfl | rfl | rfl | rfl | rfl | rfl : kd = 0 ∨ kd = 1 ∨ kd = 2 ∨ kd = 3 ∨ kd = 4 ∨ kd = 5 ∨ kd = 6 ∨ kd = 7 ∨ kd = 8 ∨ kd = 9 ∨ kd = 10 ∨ kd = 11 ∨ kd = 12 ∨ kd = 13 ∨ kd = 14 ∨ kd = 15 ∨ kd = 16 ∨ kd = 17 := by omega
  · trivial
  · trivial
  · exact i8 rfl
  · exact i16 rfl
  · exact i32 rfl
  · exact ⟨i0, i1⟩
  · exact ⟨i0, i1⟩
  · exact u8 rfl
  · exact u16 rfl
  · exact u32 rfl
  · exact u1
  · exact u1
  · exact (fl (.inl rfl)).2.1
  · trivial
  · exact ⟨(fl (.inr rfl)).2.1, (fl (.inr rfl)).2.2.2⟩
  · trivial
  · trivial
  · trivial

end Go.Proofs.YtaoonpncnahhgaaDoor
