/-
  InnerFiler's methods over a MemFiler.
-/
import Derived.Test.YtkkliejgmgmebaaDoorM7
import Derived.IntWalk
namespace Go.Proofs.YtkkliejgmgmebaaDoor
open Go.RowKit

/-- a filer within a file in memory -/
structure InnAt (Pr : Nat → Prop) (w : World) (gi gm off0 : Nat) : Prop where
  p : Pr gi
  c : w.heap[gi]? = some (.cells #[.iface 57 (.pointer (some ⟨gm, 0, none⟩)), .int .i64 (off0 : Int)] 69 (0, 0))

theorem InnAt.keeps {Pr : Nat → Prop} {w w' : World} {gi gm off0 : Nat} (h : InnAt Pr w gi gm off0) (hk : Keeps Pr w w') : InnAt Pr w' gi gm off0 := ⟨h.p, (hk.block gi h.p).trans h.c⟩
theorem InnAt.mono {Pr Pr' : Nat → Prop} {w : World} {gi gm off0 : Nat} (h : InnAt Pr w gi gm off0) (hp : ∀ k, Pr k → Pr' k) : InnAt Pr' w gi gm off0 := ⟨hp _ h.p, h.c⟩
theorem InnAt.cells {Pr : Nat → Prop} {w : World} {gi gm off0 : Nat} (h : InnAt Pr w gi gm off0) :
    w.cell? ⟨gi, 0, none⟩ = some (.iface 57 (.pointer (some ⟨gm, 0, none⟩))) ∧ w.cell? ⟨gi, 1, none⟩ = some (.int .i64 (off0 : Int)) := by
  obtain ⟨b0, -⟩ := cells_at h.c
  have c0 := b0 0
  have c1 := b0 1
  simp only [List.getElem?_toArray, List.getElem?_cons_succ, List.getElem?_cons_zero] at c0 c1
  exact ⟨c0, c1⟩

theorem nil_ahead_ir (a : Addr) (w : World) : (nilAhead 226 57 (.pointer (some a)) "ReadAt").run Tryd.prog w = .ok (some false) w := by kernel_rfl
theorem method_ir (a : Addr) (w : World) : (method 226 57 (.pointer (some a)) "ReadAt").run Tryd.prog w = .ok (54, .pointer (some a)) w := by kernel_rfl
set_option maxRecDepth 100000 in
set_option maxHeartbeats 4000000 in
theorem iread_of (w : World) (gi gm off0 off : Nat) (s : Value) (R : Value → Value → World → Prop) (c0 : w.cell? ⟨gi, 0, none⟩ = some (.iface 57 (.pointer (some ⟨gm, 0, none⟩)))) (c1 : w.cell? ⟨gi, 1, none⟩ = some (.int .i64 (off0 : Int))) (h0 : off0 ≤ 1000000) (h1 : off ≤ 1000000)
    (h : Calls Tryd.prog 54 #[.pointer (some ⟨gm, 0, none⟩), s, .int .i64 ((off0 : Int) + (off : Int))] w.drew fun e w' => ∃ x y, e = .returned (.tuple #[x, y]) ∧ R x y w') :
    Calls Tryd.prog 65 #[.pointer (some ⟨gi, 0, none⟩), s, .int .i64 (off : Int)] w fun e w' => ∃ x y, e = .returned (.tuple #[x, y]) ∧ R x y w' := by
  have H := Lib.hid h
  clear h
  have x0 : (0 : Int) ≤ off := by omega
  have eb : IntKind.i64.wrap ((off0 : Int) + (off : Int)) = (off0 : Int) + (off : Int) := IntWalk.i64_in _ (by omega)
  have na := nil_ahead_ir ⟨gm, 0, none⟩
  have me := method_ir ⟨gm, 0, none⟩
  go_enter Tryd.func65, Tryd.ntmps65
  (repeat (first | go_values | go_skip | go_guarded | go_step | go_upon))
  refine wp_blind ?_
  go_region_with (first
    | (go_at_call 54; refine H.out.mono ?_; rintro e w' ⟨x, y, rfl, hr⟩; have HR := Lib.hid hr; clear hr))
  all_goals
    simp only [onlyNormal]
    (repeat (first | go_values | go_skip | go_guarded | go_step | go_upon))
    go_ret2
    exact ⟨_, _, rfl, HR.out⟩

theorem nil_ahead_iw (a : Addr) (w : World) : (nilAhead 226 57 (.pointer (some a)) "WriteAt").run Tryd.prog w = .ok (some false) w := by kernel_rfl
theorem method_iw (a : Addr) (w : World) : (method 226 57 (.pointer (some a)) "WriteAt").run Tryd.prog w = .ok (58, .pointer (some a)) w := by kernel_rfl
set_option maxRecDepth 100000 in
set_option maxHeartbeats 4000000 in
theorem iwrite_of (w : World) (gi gm off0 off : Nat) (s : Value) (R : Value → Value → World → Prop) (c0 : w.cell? ⟨gi, 0, none⟩ = some (.iface 57 (.pointer (some ⟨gm, 0, none⟩)))) (c1 : w.cell? ⟨gi, 1, none⟩ = some (.int .i64 (off0 : Int))) (h0 : off0 ≤ 1000000) (h1 : off ≤ 1000000)
    (h : Calls Tryd.prog 58 #[.pointer (some ⟨gm, 0, none⟩), s, .int .i64 ((off0 : Int) + (off : Int))] w.drew fun e w' => ∃ x y, e = .returned (.tuple #[x, y]) ∧ R x y w') :
    Calls Tryd.prog 69 #[.pointer (some ⟨gi, 0, none⟩), s, .int .i64 (off : Int)] w fun e w' => ∃ x y, e = .returned (.tuple #[x, y]) ∧ R x y w' := by
  have H := Lib.hid h
  clear h
  have x0 : (0 : Int) ≤ off := by omega
  have eb : IntKind.i64.wrap ((off0 : Int) + (off : Int)) = (off0 : Int) + (off : Int) := IntWalk.i64_in _ (by omega)
  have na := nil_ahead_iw ⟨gm, 0, none⟩
  have me := method_iw ⟨gm, 0, none⟩
  go_enter Tryd.func69, Tryd.ntmps69
  (repeat (first | go_values | go_skip | go_guarded | go_step | go_upon))
  refine wp_blind ?_
  go_region_with (first
    | (go_at_call 58; refine H.out.mono ?_; rintro e w' ⟨x, y, rfl, hr⟩; have HR := Lib.hid hr; clear hr))
  all_goals
    simp only [onlyNormal]
    (repeat (first | go_values | go_skip | go_guarded | go_step | go_upon))
    go_ret2
    exact ⟨_, _, rfl, HR.out⟩

theorem nil_ahead_it (a : Addr) (w : World) : (nilAhead 226 57 (.pointer (some a)) "Truncate").run Tryd.prog w = .ok (some false) w := by kernel_rfl
theorem method_it (a : Addr) (w : World) : (method 226 57 (.pointer (some a)) "Truncate").run Tryd.prog w = .ok (57, .pointer (some a)) w := by kernel_rfl
set_option maxRecDepth 100000 in
set_option maxHeartbeats 4000000 in
theorem itrunc_of (w : World) (gi gm off0 n : Nat) (R : World → Prop) (c0 : w.cell? ⟨gi, 0, none⟩ = some (.iface 57 (.pointer (some ⟨gm, 0, none⟩)))) (c1 : w.cell? ⟨gi, 1, none⟩ = some (.int .i64 (off0 : Int))) (h0 : off0 ≤ 1000000) (h1 : n ≤ 100000000)
    (h : Calls Tryd.prog 57 #[.pointer (some ⟨gm, 0, none⟩), .int .i64 ((n : Int) + (off0 : Int))] w.drew fun e w' => e = .returned .nilIface ∧ R w') :
    Calls Tryd.prog 68 #[.pointer (some ⟨gi, 0, none⟩), .int .i64 (n : Int)] w fun e w' => e = .returned .nilIface ∧ R w' := by
  have H := Lib.hid h
  clear h
  have eb : IntKind.i64.wrap ((n : Int) + (off0 : Int)) = (n : Int) + (off0 : Int) := IntWalk.i64_in _ (by omega)
  have na := nil_ahead_it ⟨gm, 0, none⟩
  have me := method_it ⟨gm, 0, none⟩
  go_enter Tryd.func68, Tryd.ntmps68
  (repeat (first | go_values | go_skip | go_guarded | go_step | go_upon))
  refine wp_blind ?_
  go_region_with (first
    | (go_at_call 57; refine H.out.mono ?_; rintro e w' ⟨rfl, hr⟩; have HR := Lib.hid hr; clear hr))
  all_goals
    simp only [onlyNormal]
    (repeat (first | go_values | go_skip | go_guarded | go_step | go_upon))
    go_ret
    exact ⟨rfl, HR.out⟩

theorem nil_ahead_ip (a : Addr) (w : World) : (nilAhead 226 57 (.pointer (some a)) "PunchHole").run Tryd.prog w = .ok (some false) w := by kernel_rfl
theorem method_ip (a : Addr) (w : World) : (method 226 57 (.pointer (some a)) "PunchHole").run Tryd.prog w = .ok (53, .pointer (some a)) w := by kernel_rfl
set_option maxRecDepth 100000 in
set_option maxHeartbeats 4000000 in
theorem ipunch_any (w : World) (gi gm off0 : Nat) (x y : Int) (c0 : w.cell? ⟨gi, 0, none⟩ = some (.iface 57 (.pointer (some ⟨gm, 0, none⟩)))) (c1 : w.cell? ⟨gi, 1, none⟩ = some (.int .i64 (off0 : Int))) :
    Calls Tryd.prog 64 #[.pointer (some ⟨gi, 0, none⟩), .int .i64 x, .int .i64 y] w fun e w' => e = .returned .nilIface ∧ w' = w.drew := by
  have na := nil_ahead_ip ⟨gm, 0, none⟩
  have me := method_ip ⟨gm, 0, none⟩
  go_enter Tryd.func64, Tryd.ntmps64
  (repeat (first | go_values | go_skip | go_guarded | go_step | go_upon))
  refine wp_blind ?_
  go_region_with (first
    | (go_at_call 53; refine (mpunch_any _ _ _ _).mono ?_; rintro e w' ⟨rfl, rfl⟩))
  all_goals
    simp only [onlyNormal]
    (repeat (first | go_values | go_skip | go_guarded | go_step | go_upon))
    go_ret
    exact ⟨rfl, rfl⟩

set_option maxRecDepth 100000 in
theorem ibegin_of (w : World) (gi gm : Nat) (R : Value → World → Prop) (c0 : w.cell? ⟨gi, 0, none⟩ = some (.iface 57 (.pointer (some ⟨gm, 0, none⟩))))
    (h : Calls Tryd.prog 50 #[.pointer (some ⟨gm, 0, none⟩)] w fun e w' => ∃ x, e = .returned x ∧ R x w') :
    Calls Tryd.prog 61 #[.pointer (some ⟨gi, 0, none⟩)] w fun e w' => ∃ x, e = .returned x ∧ R x w' := by
  have H := Lib.hid h
  clear h
  go_enter Tryd.func61, Tryd.ntmps61
  (repeat (first | go_values | go_skip | go_guarded | go_step | go_upon))
  refine H.out.mono ?_
  rintro e w' ⟨x, rfl, hr⟩
  have HR := Lib.hid hr
  clear hr
  dsimp only
  (repeat (first | go_values | go_skip | go_guarded | go_step | go_upon))
  go_ret
  exact ⟨_, rfl, HR.out⟩

set_option maxRecDepth 100000 in
theorem iend_of (w : World) (gi gm : Nat) (R : Value → World → Prop) (c0 : w.cell? ⟨gi, 0, none⟩ = some (.iface 57 (.pointer (some ⟨gm, 0, none⟩))))
    (h : Calls Tryd.prog 51 #[.pointer (some ⟨gm, 0, none⟩)] w fun e w' => ∃ x, e = .returned x ∧ R x w') :
    Calls Tryd.prog 62 #[.pointer (some ⟨gi, 0, none⟩)] w fun e w' => ∃ x, e = .returned x ∧ R x w' := by
  have H := Lib.hid h
  clear h
  go_enter Tryd.func62, Tryd.ntmps62
  (repeat (first | go_values | go_skip | go_guarded | go_step | go_upon))
  refine H.out.mono ?_
  rintro e w' ⟨x, rfl, hr⟩
  have HR := Lib.hid hr
  clear hr
  dsimp only
  (repeat (first | go_values | go_skip | go_guarded | go_step | go_upon))
  go_ret
  exact ⟨_, rfl, HR.out⟩

set_option maxRecDepth 100000 in
theorem irollback_of (w : World) (gi gm : Nat) (R : Value → World → Prop) (c0 : w.cell? ⟨gi, 0, none⟩ = some (.iface 57 (.pointer (some ⟨gm, 0, none⟩))))
    (h : Calls Tryd.prog 55 #[.pointer (some ⟨gm, 0, none⟩)] w fun e w' => ∃ x, e = .returned x ∧ R x w') :
    Calls Tryd.prog 66 #[.pointer (some ⟨gi, 0, none⟩)] w fun e w' => ∃ x, e = .returned x ∧ R x w' := by
  have H := Lib.hid h
  clear h
  go_enter Tryd.func66, Tryd.ntmps66
  (repeat (first | go_values | go_skip | go_guarded | go_step | go_upon))
  refine H.out.mono ?_
  rintro e w' ⟨x, rfl, hr⟩
  have HR := Lib.hid hr
  clear hr
  dsimp only
  (repeat (first | go_values | go_skip | go_guarded | go_step | go_upon))
  go_ret
  exact ⟨_, rfl, HR.out⟩

theorem imax_any (w : World) (x : Nat) : Calls Tryd.prog 70 #[.int .i64 (x : Int), .int .i64 0] w fun e w' => e = .returned (.int .i64 (x : Int)) ∧ w' = w := by
  have x0 : (0 : Int) ≤ x := by omega
  go_enter Tryd.func70, Tryd.ntmps70
  (repeat (first | go_values | go_skip | go_guarded | go_step | go_upon))
  go_ret
  exact ⟨rfl, rfl⟩

set_option maxRecDepth 100000 in
set_option maxHeartbeats 1000000 in
theorem isize_any (Pr : Nat → Prop) (w : World) (gi gm gz off0 n : Nat) (v : Value) (ds : List UInt8) (hp : ds.length = off0 + n) (c0 : w.cell? ⟨gi, 0, none⟩ = some (.iface 57 (.pointer (some ⟨gm, 0, none⟩)))) (c1 : w.cell? ⟨gi, 1, none⟩ = some (.int .i64 (off0 : Int))) (c : w.cell? ⟨gm, 0, none⟩ = some (.pointer (some ⟨gz, 0, none⟩))) (h : ZIs Pr w gz v ds) (hb : n ≤ 1000000000000) :
    Calls Tryd.prog 67 #[.pointer (some ⟨gi, 0, none⟩)] w fun e w' => e = .returned (.tuple #[.int .i64 (n : Int), .nilIface]) ∧ w' = w := by
  have HM := Lib.hid (msize_any Pr w gm gz v ds c h)
  have HL := Lib.hid (show ((ds.length : Nat) : Int) - (off0 : Int) = (n : Int) by omega)
  have h0 : -9223372036854775808 ≤ ((ds.length : Nat) : Int) - (off0 : Int) ∧ ((ds.length : Nat) : Int) - (off0 : Int) ≤ 9223372036854775807 := by omega
  clear h hp
  go_enter Tryd.func67, Tryd.ntmps67
  (repeat (first | go_values | go_skip | go_guarded | go_step | go_upon))
  refine HM.out.mono ?_
  rintro e w' ⟨rfl, rfl⟩
  dsimp only
  (repeat (first | go_values | go_skip | go_guarded | go_step | go_upon))
  rw [HL.out]
  refine (imax_any _ _).mono ?_
  rintro e w' ⟨rfl, rfl⟩
  dsimp only
  (repeat (first | go_values | go_skip | go_guarded | go_step | go_upon))
  go_ret2
  exact ⟨rfl, rfl⟩

end Go.Proofs.YtkkliejgmgmebaaDoor
