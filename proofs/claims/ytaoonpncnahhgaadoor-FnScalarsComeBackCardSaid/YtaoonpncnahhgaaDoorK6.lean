/-
  A scalar that was decoded is of the class and the value of the one that was encoded.
-/
import Derived.Test.YtaoonpncnahhgaaDoorD15
namespace Go.Proofs.YtaoonpncnahhgaaDoor
open Go.RowKit

theorem avS_inv (s : Sc) (h : OkFacts s) : (s.kind = 0 ∧ avS s = .nil) ∨ (s.kind = 1 ∧ avS s = .bool (s.int != 0)) ∨ (s.kind = 2 ∧ avS s = .i8 s.int) ∨ (s.kind = 3 ∧ avS s = .i16 s.int) ∨ (s.kind = 4 ∧ avS s = .i32 s.int) ∨ (s.kind = 5 ∧ avS s = .int s.int) ∨ (s.kind = 6 ∧ avS s = .i64 s.int) ∨ (s.kind = 7 ∧ avS s = .u8 s.uint) ∨ (s.kind = 8 ∧ avS s = .u16 s.uint) ∨ (s.kind = 9 ∧ avS s = .u32 s.uint) ∨ (s.kind = 10 ∧ avS s = .uint s.uint) ∨ (s.kind = 11 ∧ avS s = .u64 s.uint) ∨ (s.kind = 12 ∧ avS s = .f32 (down s.a) s.a) ∨ (s.kind = 13 ∧ avS s = .f64 s.a) ∨ (s.kind = 14 ∧ avS s = .c64 (down s.a) (down s.b) s.a s.b) ∨ (s.kind = 15 ∧ avS s = .c128 s.a s.b) ∨ (s.kind = 16 ∧ avS s = .byt s.bytes) ∨ (s.kind = 17 ∧ avS s = .str s.bytes) := by
  obtain ⟨kd, it, u, fa, fb, ba, bn, bc, bs⟩ := s
  have h0 := h.k0
  have h1 := h.k1
  simp only at h0 h1
  obtain rfl | rfl | rfl | rfl | rfl | rfl | rfl | rfl | rfl | rfl | rfl | rfl | rfl | rfl | rfl | rfl | rfl | rfl : kd = 0 ∨ kd = 1 ∨ kd = 2 ∨ kd = 3 ∨ kd = 4 ∨ kd = 5 ∨ kd = 6 ∨ kd = 7 ∨ kd = 8 ∨ kd = 9 ∨ kd = 10 ∨ kd = 11 ∨ kd = 12 ∨ kd = 13 ∨ kd = 14 ∨ kd = 15 ∨ kd = 16 ∨ kd = 17 := by omega
  · exact .inl ⟨rfl, rfl⟩
  · exact .inr (.inl ⟨rfl, rfl⟩)
  · exact .inr (.inr (.inl ⟨rfl, rfl⟩))
  · exact .inr (.inr (.inr (.inl ⟨rfl, rfl⟩)))
  · exact .inr (.inr (.inr (.inr (.inl ⟨rfl, rfl⟩))))
  · exact .inr (.inr (.inr (.inr (.inr (.inl ⟨rfl, rfl⟩)))))
  · exact .inr (.inr (.inr (.inr (.inr (.inr (.inl ⟨rfl, rfl⟩))))))
  · exact .inr (.inr (.inr (.inr (.inr (.inr (.inr (.inl ⟨rfl, rfl⟩)))))))
  · exact .inr (.inr (.inr (.inr (.inr (.inr (.inr (.inr (.inl ⟨rfl, rfl⟩))))))))
  · exact .inr (.inr (.inr (.inr (.inr (.inr (.inr (.inr (.inr (.inl ⟨rfl, rfl⟩)))))))))
  · exact .inr (.inr (.inr (.inr (.inr (.inr (.inr (.inr (.inr (.inr (.inl ⟨rfl, rfl⟩))))))))))
  · exact .inr (.inr (.inr (.inr (.inr (.inr (.inr (.inr (.inr (.inr (.inr (.inl ⟨rfl, rfl⟩)))))))))))
  · exact .inr (.inr (.inr (.inr (.inr (.inr (.inr (.inr (.inr (.inr (.inr (.inr (.inl ⟨rfl, rfl⟩))))))))))))
  · exact .inr (.inr (.inr (.inr (.inr (.inr (.inr (.inr (.inr (.inr (.inr (.inr (.inr (.inl ⟨rfl, rfl⟩)))))))))))))
  · exact .inr (.inr (.inr (.inr (.inr (.inr (.inr (.inr (.inr (.inr (.inr (.inr (.inr (.inr (.inl ⟨rfl, rfl⟩))))))))))))))
  · exact .inr (.inr (.inr (.inr (.inr (.inr (.inr (.inr (.inr (.inr (.inr (.inr (.inr (.inr (.inr (.inl ⟨rfl, rfl⟩)))))))))))))))
  · exact .inr (.inr (.inr (.inr (.inr (.inr (.inr (.inr (.inr (.inr (.inr (.inr (.inr (.inr (.inr (.inr (.inl ⟨rfl, rfl⟩))))))))))))))))
  · exact .inr (.inr (.inr (.inr (.inr (.inr (.inr (.inr (.inr (.inr (.inr (.inr (.inr (.inr (.inr (.inr (.inr (⟨rfl, rfl⟩)))))))))))))))))

theorem lessN_self (a : Num) : lessN a a = 0 := by
  unfold lessN
  repeat' split
  all_goals first | rfl | omega | (rename_i h; simp_all)
theorem bytesCmp_self : ∀ xs : List UInt8, bytesCmp xs xs = 0
  | [] => rfl
  | x :: xs => by
    have h : ¬ x < x := by intro h; exact absurd h (UInt8.lt_irrefl x)
    unfold bytesCmp
    rw [if_neg h, if_neg h]
    exact bytesCmp_self xs

theorem cmpS_same (s t : Sc) (hc : classOf s.kind = classOf t.kind) (h1 : classOf t.kind = 1 → s.int = t.int) (h2 : classOf t.kind = 2 → (parts s).1 = (parts t).1 ∧ (parts s).2.1 = (parts t).2.1) (h3 : 2 < classOf t.kind → s.bytes = t.bytes) : cmpS s t = 0 := by
  unfold cmpS
  rw [hc, if_neg (by omega), if_neg (by omega)]
  by_cases q0 : classOf t.kind = 0
  · rw [if_pos q0]
  rw [if_neg q0]
  by_cases q1 : classOf t.kind = 1
  · rw [if_pos q1, h1 q1]; exact lessN_self _
  rw [if_neg q1]
  by_cases q3 : 2 < classOf t.kind
  · rw [if_pos q3, h3 q3]; exact bytesCmp_self _
  rw [if_neg q3]
  have hc2 : classOf t.kind = 2 := by
    have : 0 ≤ classOf t.kind := by unfold classOf; repeat' split
                                    all_goals omega
    omega
  obtain ⟨p1, p2⟩ := h2 hc2
  rw [p1, p2, lessN_self, lessN_self]
  simp

theorem back_eq (s t : Sc) (hs : OkFacts s) (ht : OkFacts t) (e : avS s = ctOf (avS t)) : classOf s.kind = classOf t.kind ∧ cmpS s t = 0 := by
  have bs := hs.bo
  have bt := ht.bo
  have key : classOf s.kind = classOf t.kind ∧ (classOf t.kind = 1 → s.int = t.int) ∧ (classOf t.kind = 2 → (parts s).1 = (parts t).1 ∧ (parts s).2.1 = (parts t).2.1) ∧ (2 < classOf t.kind → s.bytes = t.bytes) := by
    have is := avS_inv s hs
    rcases avS_inv t ht with ⟨kt, et⟩ | ⟨kt, et⟩ | ⟨kt, et⟩ | ⟨kt, et⟩ | ⟨kt, et⟩ | ⟨kt, et⟩ | ⟨kt, et⟩ | ⟨kt, et⟩ | ⟨kt, et⟩ | ⟨kt, et⟩ | ⟨kt, et⟩ | ⟨kt, et⟩ | ⟨kt, et⟩ | ⟨kt, et⟩ | ⟨kt, et⟩ | ⟨kt, et⟩ | ⟨kt, et⟩ | ⟨kt, et⟩
    all_goals
      rw [et] at e
      simp only [ctOf] at e
      rcases is with ⟨ks, es⟩ | ⟨ks, es⟩ | ⟨ks, es⟩ | ⟨ks, es⟩ | ⟨ks, es⟩ | ⟨ks, es⟩ | ⟨ks, es⟩ | ⟨ks, es⟩ | ⟨ks, es⟩ | ⟨ks, es⟩ | ⟨ks, es⟩ | ⟨ks, es⟩ | ⟨ks, es⟩ | ⟨ks, es⟩ | ⟨ks, es⟩ | ⟨ks, es⟩ | ⟨ks, es⟩ | ⟨ks, es⟩
      all_goals
        rw [es] at e
        first
          | (cases e; done)
          | (have h1 := bs ks
             have h2 := bt kt
             rw [ks, kt]
             refine ⟨rfl, fun _ => ?_, fun h => by simp [classOf] at h, fun h => by simp [classOf] at h⟩
             simp only [AV.bool.injEq] at e
             rcases h1 with h1 | h1 <;> rcases h2 with h2 | h2 <;> rw [h1, h2] at e ⊢ <;> simp at e)
          | (simp only [AV.i64.injEq, AV.u64.injEq, AV.f64.injEq, AV.c128.injEq, AV.byt.injEq, AV.str.injEq] at e
             unfold parts
             rw [ks, kt]
             simp [classOf, e])
          | (unfold parts
             rw [ks, kt]
             simp [classOf])
  exact ⟨key.1, cmpS_same s t key.1 key.2.1 key.2.2.1 key.2.2.2⟩

end Go.Proofs.YtaoonpncnahhgaaDoor
