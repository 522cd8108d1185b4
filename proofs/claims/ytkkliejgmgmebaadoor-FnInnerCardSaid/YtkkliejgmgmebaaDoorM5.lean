/-
  MemFiler's methods.
-/
import Derived.Test.YtkkliejgmgmebaaDoorM4
namespace Go.Proofs.YtkkliejgmgmebaaDoor
open Go.RowKit

theorem mread_of (w : World) (gm gz : Nat) (s o : Value) (R : Value → Value → World → Prop) (c : w.cell? ⟨gm, 0, none⟩ = some (.pointer (some ⟨gz, 0, none⟩)))
    (h : Calls Tryd.prog 45 #[.pointer (some ⟨gz, 0, none⟩), s, o] w fun e w' => ∃ x y, e = .returned (.tuple #[x, y]) ∧ R x y w') :
    Calls Tryd.prog 54 #[.pointer (some ⟨gm, 0, none⟩), s, o] w fun e w' => ∃ x y, e = .returned (.tuple #[x, y]) ∧ R x y w' := by
  have H := Lib.hid h
  clear h
  go_enter Tryd.func54, Tryd.ntmps54
  (repeat (first | go_values | go_skip | go_guarded | go_step | go_upon))
  refine H.out.mono ?_
  rintro e w' ⟨x, y, rfl, hr⟩
  have HR := Lib.hid hr
  clear hr
  dsimp only
  (repeat (first | go_values | go_skip | go_guarded | go_step | go_upon))
  go_ret2
  exact ⟨_, _, rfl, HR.out⟩

theorem mwrite_of (w : World) (gm gz : Nat) (s o : Value) (R : Value → Value → World → Prop) (c : w.cell? ⟨gm, 0, none⟩ = some (.pointer (some ⟨gz, 0, none⟩)))
    (h : Calls Tryd.prog 47 #[.pointer (some ⟨gz, 0, none⟩), s, o] w fun e w' => ∃ x y, e = .returned (.tuple #[x, y]) ∧ R x y w') :
    Calls Tryd.prog 58 #[.pointer (some ⟨gm, 0, none⟩), s, o] w fun e w' => ∃ x y, e = .returned (.tuple #[x, y]) ∧ R x y w' := by
  have H := Lib.hid h
  clear h
  go_enter Tryd.func58, Tryd.ntmps58
  (repeat (first | go_values | go_skip | go_guarded | go_step | go_upon))
  refine H.out.mono ?_
  rintro e w' ⟨x, y, rfl, hr⟩
  have HR := Lib.hid hr
  clear hr
  dsimp only
  (repeat (first | go_values | go_skip | go_guarded | go_step | go_upon))
  go_ret2
  exact ⟨_, _, rfl, HR.out⟩

theorem mtrunc_of (w : World) (gm gz : Nat) (o : Value) (R : World → Prop) (c : w.cell? ⟨gm, 0, none⟩ = some (.pointer (some ⟨gz, 0, none⟩)))
    (h : Calls Tryd.prog 46 #[.pointer (some ⟨gz, 0, none⟩), o] w fun e w' => e = .returned .nilIface ∧ R w') :
    Calls Tryd.prog 57 #[.pointer (some ⟨gm, 0, none⟩), o] w fun e w' => e = .returned .nilIface ∧ R w' := by
  have H := Lib.hid h
  clear h
  go_enter Tryd.func57, Tryd.ntmps57
  (repeat (first | go_values | go_skip | go_guarded | go_step | go_upon))
  refine H.out.mono ?_
  rintro e w' ⟨rfl, hr⟩
  have HR := Lib.hid hr
  clear hr
  dsimp only
  (repeat (first | go_values | go_skip | go_guarded | go_step | go_upon))
  go_ret
  exact ⟨rfl, HR.out⟩

theorem mpunch_any (w : World) (p o s : Value) : Calls Tryd.prog 53 #[p, o, s] w fun e w' => e = .returned .nilIface ∧ w' = w := by
  go_enter Tryd.func53, Tryd.ntmps53
  (repeat (first | go_values | go_skip | go_guarded | go_step | go_upon))
  go_ret
  exact ⟨rfl, rfl⟩
theorem mrollback_any (w : World) (p : Value) : Calls Tryd.prog 55 #[p] w fun e w' => e = .returned .nilIface ∧ w' = w := by
  go_enter Tryd.func55, Tryd.ntmps55
  (repeat (first | go_values | go_skip | go_guarded | go_step | go_upon))
  go_ret
  exact ⟨rfl, rfl⟩

theorem msize_any (Pr : Nat → Prop) (w : World) (gm gz : Nat) (v : Value) (bs : List UInt8) (c : w.cell? ⟨gm, 0, none⟩ = some (.pointer (some ⟨gz, 0, none⟩))) (h : ZIs Pr w gz v bs) :
    Calls Tryd.prog 56 #[.pointer (some ⟨gm, 0, none⟩)] w fun e w' => e = .returned (.tuple #[.int .i64 (bs.length : Int), .nilIface]) ∧ w' = w := by
  have H := Lib.hid h
  clear h
  go_enter Tryd.func56, Tryd.ntmps56
  (repeat (first | go_values | go_skip | go_guarded | go_step | go_upon))
  refine (zstat_any Pr w gz v bs H.out).mono ?_
  rintro e w' ⟨rfl, rfl⟩
  dsimp only
  (repeat (first | go_values | go_skip | go_guarded | go_step | go_upon))
  refine (zzsize_any _ _).mono ?_
  rintro e w' ⟨rfl, rfl⟩
  dsimp only
  (repeat (first | go_values | go_skip | go_guarded | go_step | go_upon))
  go_ret2
  exact ⟨rfl, rfl⟩

theorem wrap64_range (x : Int) : -9223372036854775808 ≤ wrap64 x ∧ wrap64 x ≤ 9223372036854775807 := by unfold wrap64; omega
theorem wrapI64_range (x : Int) : -9223372036854775808 ≤ IntKind.i64.wrap x ∧ IntKind.i64.wrap x ≤ 9223372036854775807 := by rw [IntKind.wrap_i64]; omega

theorem mbegin_any (w : World) (gm : Nat) (n : Int) (p : Value) (h : w.heap[gm]? = some (.cells #[p, .int .i64 n] 67 (0, 0))) :
    Calls Tryd.prog 50 #[.pointer (some ⟨gm, 0, none⟩)] w fun e w' => e = .returned .nilIface ∧ ∃ n' : Int, (-9223372036854775808 ≤ n' ∧ n' ≤ 9223372036854775807) ∧ w' = w.setCell ⟨gm, 1, none⟩ (.int .i64 n') := by
  obtain ⟨b0, b1⟩ := cells_at h
  have c1 := b0 1
  have f1 := b1 1
  simp only [List.getElem?_toArray, List.getElem?_cons_succ, List.getElem?_cons_zero] at c1
  clear b0 b1 h
  go_enter Tryd.func50, Tryd.ntmps50
  (repeat (first | go_values | go_skip | go_guarded | go_step | go_upon))
  go_ret
  exact ⟨rfl, _, by first | exact wrap64_range _ | exact wrapI64_range _, rfl⟩

theorem mname_any (w : World) (p : Value) : Calls Tryd.prog 52 #[p] w fun e w' => (∃ s, e = .returned (.string s) ∧ s.size ≤ 100) ∧ w' = w := by
  go_enter Tryd.func52, Tryd.ntmps52
  (repeat (first | go_values | go_skip | go_guarded | go_step | go_upon))
  go_ret
  exact ⟨⟨_, rfl, by decide⟩, rfl⟩

theorem mend_some (w : World) (gm : Nat) (n : Int) (p : Value) (h : w.heap[gm]? = some (.cells #[p, .int .i64 n] 67 (0, 0))) (h0 : n ≠ 0) :
    Calls Tryd.prog 51 #[.pointer (some ⟨gm, 0, none⟩)] w fun e w' => e = .returned .nilIface ∧ ∃ n' : Int, (-9223372036854775808 ≤ n' ∧ n' ≤ 9223372036854775807) ∧ w' = w.setCell ⟨gm, 1, none⟩ (.int .i64 n') := by
  obtain ⟨b0, b1⟩ := cells_at h
  have c1 := b0 1
  have f1 := b1 1
  simp only [List.getElem?_toArray, List.getElem?_cons_succ, List.getElem?_cons_zero] at c1
  have hb : (n == 0) = false := by simpa using h0
  clear b0 b1 h h0
  go_enter Tryd.func51, Tryd.ntmps51
  (repeat (first | go_values | go_skip | go_guarded | go_step | go_upon))
  go_ret
  exact ⟨rfl, _, by first | exact wrap64_range _ | exact wrapI64_range _, rfl⟩

theorem mend_none (w : World) (gm : Nat) (p : Value) (h : w.heap[gm]? = some (.cells #[p, .int .i64 0] 67 (0, 0))) :
    Calls Tryd.prog 51 #[.pointer (some ⟨gm, 0, none⟩)] w fun e w' => ∃ o, e = .returned (.iface 81 (.pointer (some ⟨w.heap.size, 0, none⟩))) ∧ w' = w.alloc o := by
  obtain ⟨b0, b1⟩ := cells_at h
  have c1 := b0 1
  have f1 := b1 1
  simp only [List.getElem?_toArray, List.getElem?_cons_succ, List.getElem?_cons_zero] at c1
  clear b0 b1 h
  go_enter Tryd.func51, Tryd.ntmps51
  (repeat (first | go_values | go_skip | go_guarded | go_step | go_upon))
  refine (mname_any _ _).mono ?_
  rintro e w' ⟨⟨s, rfl, hs⟩, rfl⟩
  dsimp only
  (repeat (first | go_values | go_skip | go_guarded | go_step | go_upon))
  go_ret
  exact ⟨_, rfl, rfl⟩

end Go.Proofs.YtkkliejgmgmebaaDoor
