/-
  ZZMem.WriteAt, Truncate, ReadAt, Stat; kind.
-/
import Derived.Test.YtkkliejgmgmebaaDoorM2
import Derived.LaidEql
namespace Go.Proofs.YtkkliejgmgmebaaDoor
open Go.RowKit

/-- the two variables -/
structure Vars (Pr : Nat → Prop) (w : World) (a b : Addr) : Prop where
  p0 : Pr 0
  p1 : Pr 1
  e0 : w.cell? ⟨0, 0, none⟩ = some (.iface 85 (.pointer (some a)))
  e1 : w.cell? ⟨1, 0, none⟩ = some (.iface 85 (.pointer (some b)))

theorem Vars.keeps {Pr : Nat → Prop} {w w' : World} {a b : Addr} (h : Vars Pr w a b) (hk : Keeps Pr w w') : Vars Pr w' a b :=
  ⟨h.p0, h.p1, (hk.cell (a := ⟨0, 0, none⟩) h.p0).trans h.e0, (hk.cell (a := ⟨1, 0, none⟩) h.p1).trans h.e1⟩
theorem Vars.mono {Pr Pr' : Nat → Prop} {w : World} {a b : Addr} (h : Vars Pr w a b) (hp : ∀ k, Pr k → Pr' k) : Vars Pr' w a b := ⟨hp _ h.p0, hp _ h.p1, h.e0, h.e1⟩

theorem eql_same (w : World) (a : Addr) : (binOp .eql 71 (.iface 85 (.pointer (some a))) (.iface 85 (.pointer (some a)))).run Tryd.prog w = .ok (.bool true) w := by
  have h1 : (Tryd.prog.info? 85).map (·.comparable) = some true := by kernel_rfl
  have h2 : (Tryd.prog.info? 123).map (·.size) = some 1 := by kernel_rfl
  obtain ⟨i, hi, hi2⟩ := Option.map_eq_some_iff.1 h1
  obtain ⟨j, hj, -⟩ := Option.map_eq_some_iff.1 h2
  exact run_eql_iface_ptr_same w a Tryd.underlying71 Tryd.underlying85 hi hi2 hj
theorem eql_perm (w : World) (p a : Addr) : (binOp .eql 71 (.iface 81 (.pointer (some p))) (.iface 85 (.pointer (some a)))).run Tryd.prog w = .ok (.bool false) w := by kernel_rfl
theorem eql_nilr (w : World) (t : TypeId) (v : Value) : (binOp .eql 71 (.iface t v) .nilIface).run Tryd.prog w = .ok (.bool false) w := by kernel_rfl

theorem kind_nil (w : World) : Calls Tryd.prog 25 #[.nilIface] w fun e w' => e = .returned (.int .i64 0) ∧ w' = w := by
  go_enter Tryd.func25, Tryd.ntmps25
  (repeat (first | go_values | go_skip | go_guarded | go_step | go_upon))
  go_ret
  exact ⟨rfl, rfl⟩

theorem kind_eof (Pr : Nat → Prop) (w : World) (a b : Addr) (h : Vars Pr w a b) : Calls Tryd.prog 25 #[.iface 85 (.pointer (some a))] w fun e w' => e = .returned (.int .i64 1) ∧ w' = w := by
  have e0 := h.e0
  have q := eql_same
  clear h
  go_enter Tryd.func25, Tryd.ntmps25
  (repeat (first | go_values | go_skip | go_guarded | go_step | go_upon))
  go_ret
  exact ⟨rfl, rfl⟩

theorem ta_perm (w : World) (v : Value) : (Instr.typeAssert (.iface 81 v) 71 81 true).run Tryd.prog w = .ok (.tuple #[v, .bool true]) w := by
  unfold Instr.typeAssert; simp [run_underlying Tryd.underlying81]

set_option maxRecDepth 100000 in
theorem kind_perm (Pr : Nat → Prop) (w : World) (a b p : Addr) (h : Vars Pr w a b) : Calls Tryd.prog 25 #[.iface 81 (.pointer (some p))] w fun e w' => (∃ q : Int, e = .returned (.int .i64 q)) ∧ w' = w := by
  have e0 := h.e0
  have e1 := h.e1
  have q := eql_perm
  have zr : Calls Tryd.prog 26 #[.iface 81 (.pointer (some p))] w fun e w' => e = .returned (.bool false) ∧ w' = w := by
    clear h
    go_enter Tryd.func26, Tryd.ntmps26
    (repeat (first | go_values | go_skip | go_guarded | go_step | go_upon))
    go_ret
    exact ⟨rfl, rfl⟩
  have ZR := Lib.hid zr
  have ta := ta_perm
  clear h zr
  go_enter Tryd.func25, Tryd.ntmps25
  (repeat (first | go_values | go_skip | go_guarded | go_step | go_upon))
  refine ZR.out.mono ?_
  rintro e w' ⟨rfl, rfl⟩
  dsimp only
  (repeat (first | go_values | go_skip | go_guarded | go_step | go_upon))
  go_ret
  exact ⟨⟨_, rfl⟩, rfl⟩

theorem put_any (Pr : Nat → Prop) (w : World) (gz : Nat) (v : Value) (bs xs : List UInt8) (a : Option Addr) (n c off : Nat) (hin : Inw Pr w) (h : ZIs Pr w gz v bs) (hr : Rd Pr w a n xs) (hn : 0 < n) (hl : bs.length ≤ 10000000) (ho : off ≤ 1000000) (hn2 : n ≤ 1000000) :
    Calls Tryd.prog 49 #[.pointer (some ⟨gz, 0, none⟩), .slice a n c, .int .i64 (off : Int)] w fun e w' => e = .returned (.tuple #[]) ∧ ∃ v', ZIs Pr w' gz v' (wrB bs off xs) ∧ Keeps Pr w w' := by
  by_cases hlt : bs.length < off + n
  · exact put_grow Pr w gz v bs xs a n c off hin h hr hn hl ho hn2 hlt
  · exact put_fit Pr w gz v bs xs a n c off hin h hr hn hl (by omega)

set_option maxRecDepth 100000 in
set_option maxHeartbeats 1000000 in
theorem zwrite_any (Pr : Nat → Prop) (w : World) (gz : Nat) (v : Value) (bs xs : List UInt8) (a : Option Addr) (n c off : Nat) (hin : Inw Pr w) (h : ZIs Pr w gz v bs) (hr : Rd Pr w a n xs) (hnc : n ≤ c) (hn : 0 < n) (hl : bs.length ≤ 10000000) (ho : off ≤ 1000000) (hn2 : n ≤ 1000000) :
    Calls Tryd.prog 47 #[.pointer (some ⟨gz, 0, none⟩), .slice a n c, .int .i64 (off : Int)] w fun e w' => e = .returned (.tuple #[.int .i64 (n : Int), .nilIface]) ∧ ∃ v', ZIs Pr w' gz v' (wrB bs off xs) ∧ Keeps Pr w w' := by
  obtain ⟨c0, c2, f0⟩ := h.cells
  have H := Lib.hid h
  have HR := Lib.hid hr
  have HI := Lib.hid hin
  have L := Lib.hid (lets_any w gz n c2)
  clear h hr hin c0 f0
  go_enter Tryd.func47, Tryd.ntmps47
  (repeat (first | go_values | go_skip | go_guarded | go_step | go_upon))
  refine L.out.mono ?_
  rintro e w' ⟨rfl, rfl⟩
  dsimp only
  (repeat (first | go_values | go_skip | go_guarded | go_step | go_upon))
  refine (put_any Pr w' gz v bs xs a n c off HI.out H.out HR.out hn hl ho hn2).mono ?_
  rintro e w2 ⟨rfl, v', hz, hk⟩
  have HZ := Lib.hid hz
  have HK := Lib.hid hk
  clear hz hk
  dsimp only
  (repeat (first | go_values | go_skip | go_guarded | go_step | go_upon))
  go_ret2
  exact ⟨rfl, v', HZ.out, HK.out⟩

/-- bytes, made as long as it is told -/
def resB (bs : List UInt8) (n : Nat) : List UInt8 := bs.take n ++ List.replicate (n - bs.length) 0

set_option maxRecDepth 100000 in
set_option maxHeartbeats 1000000 in
theorem ztrunc_cut (Pr : Nat → Prop) (w : World) (gz : Nat) (v : Value) (bs : List UInt8) (n : Nat) (h : ZIs Pr w gz v bs) (hn : n ≤ bs.length) :
    Calls Tryd.prog 46 #[.pointer (some ⟨gz, 0, none⟩), .int .i64 (n : Int)] w fun e w' => e = .returned .nilIface ∧ ∃ v', ZIs Pr w' gz v' (resB bs n) ∧ Keeps Pr w w' := by
  obtain ⟨c0, c2, f0⟩ := h.cells
  obtain ⟨va, vc, rfl, hvc, -⟩ := h.row.slice
  have x1 : (n : Int) ≤ vc := by omega
  have x0 : (0 : Int) ≤ n := by omega
  have H := Lib.hid h
  have L := Lib.hid (lets_any w gz 0 c2)
  clear h
  go_enter Tryd.func46, Tryd.ntmps46
  (repeat (first | go_values | go_skip | go_guarded | go_step | go_upon))
  refine L.out.mono ?_
  rintro e w' ⟨rfl, rfl⟩
  dsimp only
  (repeat (first | go_values | go_skip | go_guarded | go_step | go_upon))
  go_ret
  have hr := H.out.row.cut n n hn (Nat.le_refl _) (by omega)
  rw [Nat.mul_one, ← List.map_take] at hr
  have e : resB bs n = bs.take n := by unfold resB; rw [show n - bs.length = 0 by omega, List.replicate_zero, List.append_nil]
  have el : (resB bs n).length = n := by rw [e, List.length_take]; omega
  refine ⟨rfl, _, ZIs.set H.out.fz H.out.nz ?_, Keeps.setCell (a := ⟨gz, 0, none⟩) H.out.nz _⟩
  rw [el, e]
  exact hr

set_option maxRecDepth 100000 in
set_option maxHeartbeats 1000000 in
theorem ztrunc_grow (Pr : Nat → Prop) (w : World) (gz : Nat) (v : Value) (bs : List UInt8) (n : Nat) (hin : Inw Pr w) (h : ZIs Pr w gz v bs) (hgr : bs.length < n) (hl : n ≤ 10000000) :
    Calls Tryd.prog 46 #[.pointer (some ⟨gz, 0, none⟩), .int .i64 (n : Int)] w fun e w' => e = .returned .nilIface ∧ ∃ v', ZIs Pr w' gz v' (resB bs n) ∧ Keeps Pr w w' := by
  obtain ⟨i0, hi, hz0, hz1, hz2⟩ := info_parts infoU8
  obtain ⟨c0, c2, f0⟩ := h.cells
  obtain ⟨va, vc, rfl, hvc, -⟩ := h.row.slice
  obtain ⟨m, hm⟩ : ∃ m, n = bs.length + m := ⟨n - bs.length, by omega⟩
  subst hm
  have H := Lib.hid h
  have HI := Lib.hid hin
  have L := Lib.hid (lets_any w gz 0 c2)
  clear h hin
  go_enter Tryd.func46, Tryd.ntmps46
  (repeat (first | go_values | go_skip | go_guarded | go_step | go_upon))
  refine L.out.mono ?_
  rintro e w' ⟨rfl, rfl⟩
  dsimp only
  (repeat (first | go_values | go_skip | go_guarded | go_step | go_upon))
  refine wp_blind ?_
  have e1 : (bs.length : Int) + m - bs.length = m := by omega
  have wm : IntKind.i64.wrap (m : Int) = m := by rw [IntKind.wrap_i64]; omega
  go_region_law (refine step_append_zeros rfl (.tmp 36) (.tmp 43) 22 2 rfl (Pr := Pr) HI.out.new .i64 i0 (.int .u8 0) Tryd.underlying22 Tryd.underlying2 hi hz0 hz1 hz2 rfl rfl H.out.row.drew m rfl rfl (by omega) (fun v' w2 hrow hgrow => ?_); obtain ⟨c1, g1⟩ := H.out.grown1 hgrow; obtain ⟨gd, vc', rfl, hvc', -⟩ := hrow.opened (show 0 < bs.length + m by omega); have HG := Lib.hid hgrow; have HW := Lib.hid hrow; clear hgrow hrow)
  all_goals simp only [onlyNormal]
  all_goals (repeat (first | go_values | go_skip | go_guarded | go_step | go_upon))
  all_goals
    go_ret
    have e : resB bs (bs.length + m) = bs ++ List.replicate m 0 := by unfold resB; rw [List.take_of_length_le (by omega), Nat.add_sub_cancel_left]
    have hrw : Row Pr w2 5 1 (.slice (some ⟨gd, 0, none⟩) (bs.length + m) vc') (resB bs (bs.length + m)).length (u8s (resB bs (bs.length + m))) := by
      rw [e, ← u8s_app, ← u8s_zeros, show (bs ++ List.replicate m (0 : UInt8)).length = bs.length + m by simp]; exact HW.out
    exact ⟨rfl, _, ZIs.set (H.out.grown HG.out) H.out.nz hrw, H.out.keepsGrown HI.out HG.out _⟩

theorem ztrunc_any (Pr : Nat → Prop) (w : World) (gz : Nat) (v : Value) (bs : List UInt8) (n : Nat) (hin : Inw Pr w) (h : ZIs Pr w gz v bs) (hn : n ≤ 10000000) :
    Calls Tryd.prog 46 #[.pointer (some ⟨gz, 0, none⟩), .int .i64 (n : Int)] w fun e w' => e = .returned .nilIface ∧ ∃ v', ZIs Pr w' gz v' (resB bs n) ∧ Keeps Pr w w' := by
  by_cases hlt : bs.length < n
  · exact ztrunc_grow Pr w gz v bs n hin h hlt hn
  · exact ztrunc_cut Pr w gz v bs n h (by omega)

theorem zstat_any (Pr : Nat → Prop) (w : World) (gz : Nat) (v : Value) (bs : List UInt8) (h : ZIs Pr w gz v bs) :
    Calls Tryd.prog 59 #[.pointer (some ⟨gz, 0, none⟩)] w fun e w' => e = .returned (.tuple #[.int .i64 (bs.length : Int), .nilIface]) ∧ w' = w := by
  obtain ⟨c0, c2, f0⟩ := h.cells
  obtain ⟨va, vc, rfl, hvc, -⟩ := h.row.slice
  clear h
  go_enter Tryd.func59, Tryd.ntmps59
  (repeat (first | go_values | go_skip | go_guarded | go_step | go_upon))
  go_ret2
  exact ⟨rfl, rfl⟩

theorem zzsize_any (w : World) (n : Int) : Calls Tryd.prog 60 #[.int .i64 n] w fun e w' => e = .returned (.int .i64 n) ∧ w' = w := by
  go_enter Tryd.func60, Tryd.ntmps60
  (repeat (first | go_values | go_skip | go_guarded | go_step | go_upon))
  go_ret
  exact ⟨rfl, rfl⟩

end Go.Proofs.YtkkliejgmgmebaaDoor
