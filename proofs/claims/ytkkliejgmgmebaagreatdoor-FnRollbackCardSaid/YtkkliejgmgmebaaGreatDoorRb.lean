/-
  bitFiler.ReadAt: the region that calls the parent's ReadAt.
-/
import Derived.Test.YtkkliejgmgmebaaGreatDoorRa
import Derived.Deep.RegionHeld3
namespace Go.Proofs.YtkkliejgmgmebaaGreatDoor
open Go.RowKit

noncomputable def reg78_15 : Code := ((Tryz.f78.body.bind (regionOf 15)).getD .skip)

theorem nil_ahead_rM (a : Addr) (w : World) : (nilAhead 280 68 (.pointer (some a)) "ReadAt").run Tryz.prog w = .ok (some false) w := by kernel_rfl
theorem method_rM (a : Addr) (w : World) : (method 280 68 (.pointer (some a)) "ReadAt").run Tryz.prog w = .ok (120, .pointer (some a)) w := by kernel_rfl
theorem nil_ahead_rB (a : Addr) (w : World) : (nilAhead 280 105 (.pointer (some a)) "ReadAt").run Tryz.prog w = .ok (some false) w := by kernel_rfl
theorem method_rB (a : Addr) (w : World) : (method 280 105 (.pointer (some a)) "ReadAt").run Tryz.prog w = .ok (78, .pointer (some a)) w := by kernel_rfl

structure frm78p (s0 s1 s2 s6 s7 s8 s9 s10 s11 s12 : Value) (a : Act) : Prop where
  df : a.defers = []
  sz : a.tmps.size = 119
  h0 : a.tmps.getD 0 undef = s0
  h1 : a.tmps.getD 1 undef = s1
  h2 : a.tmps.getD 2 undef = s2
  h6 : a.tmps.getD 6 undef = s6
  h7 : a.tmps.getD 7 undef = s7
  h8 : a.tmps.getD 8 undef = s8
  h9 : a.tmps.getD 9 undef = s9
  h10 : a.tmps.getD 10 undef = s10
  h11 : a.tmps.getD 11 undef = s11
  h12 : a.tmps.getD 12 undef = s12
set_option maxRecDepth 100000 in
theorem frm78 {s0 s1 s2 s6 s7 s8 s9 s10 s11 s12 : Value} {a : Act} (h : frm78p s0 s1 s2 s6 s7 s8 s9 s10 s11 s12 a) : ∃ u : Nat → Value, a = ⟨#[s0, s1, s2, u 3, u 4, u 5, s6, s7, s8, s9, s10, s11, s12, u 13, u 14, u 15, u 16, u 17, u 18, u 19, u 20, u 21, u 22, u 23, u 24, u 25, u 26, u 27, u 28, u 29, u 30, u 31, u 32, u 33, u 34, u 35, u 36, u 37, u 38, u 39, u 40, u 41, u 42, u 43, u 44, u 45, u 46, u 47, u 48, u 49, u 50, u 51, u 52, u 53, u 54, u 55, u 56, u 57, u 58, u 59, u 60, u 61, u 62, u 63, u 64, u 65, u 66, u 67, u 68, u 69, u 70, u 71, u 72, u 73, u 74, u 75, u 76, u 77, u 78, u 79, u 80, u 81, u 82, u 83, u 84, u 85, u 86, u 87, u 88, u 89, u 90, u 91, u 92, u 93, u 94, u 95, u 96, u 97, u 98, u 99, u 100, u 101, u 102, u 103, u 104, u 105, u 106, u 107, u 108, u 109, u 110, u 111, u 112, u 113, u 114, u 115, u 116, u 117, u 118], []⟩ := by
  obtain ⟨F, df⟩ := a
  obtain ⟨rfl, hs, rfl, rfl, rfl, rfl, rfl, rfl, rfl, rfl, rfl, rfl⟩ := h
  refine ⟨fun i => F.getD i undef, ?_⟩
  have e := open_frame F
  rw [hs] at e
  exact congrArg (Act.mk · []) e

structure frn78p (s0 s1 s2 s6 s7 s8 s9 s10 s11 s12 s13 : Value) (a : Act) : Prop where
  df : a.defers = []
  sz : a.tmps.size = 119
  h0 : a.tmps.getD 0 undef = s0
  h1 : a.tmps.getD 1 undef = s1
  h2 : a.tmps.getD 2 undef = s2
  h6 : a.tmps.getD 6 undef = s6
  h7 : a.tmps.getD 7 undef = s7
  h8 : a.tmps.getD 8 undef = s8
  h9 : a.tmps.getD 9 undef = s9
  h10 : a.tmps.getD 10 undef = s10
  h11 : a.tmps.getD 11 undef = s11
  h12 : a.tmps.getD 12 undef = s12
  h13 : a.tmps.getD 13 undef = s13
set_option maxRecDepth 100000 in
theorem frn78 {s0 s1 s2 s6 s7 s8 s9 s10 s11 s12 s13 : Value} {a : Act} (h : frn78p s0 s1 s2 s6 s7 s8 s9 s10 s11 s12 s13 a) : ∃ u : Nat → Value, a = ⟨#[s0, s1, s2, u 3, u 4, u 5, s6, s7, s8, s9, s10, s11, s12, s13, u 14, u 15, u 16, u 17, u 18, u 19, u 20, u 21, u 22, u 23, u 24, u 25, u 26, u 27, u 28, u 29, u 30, u 31, u 32, u 33, u 34, u 35, u 36, u 37, u 38, u 39, u 40, u 41, u 42, u 43, u 44, u 45, u 46, u 47, u 48, u 49, u 50, u 51, u 52, u 53, u 54, u 55, u 56, u 57, u 58, u 59, u 60, u 61, u 62, u 63, u 64, u 65, u 66, u 67, u 68, u 69, u 70, u 71, u 72, u 73, u 74, u 75, u 76, u 77, u 78, u 79, u 80, u 81, u 82, u 83, u 84, u 85, u 86, u 87, u 88, u 89, u 90, u 91, u 92, u 93, u 94, u 95, u 96, u 97, u 98, u 99, u 100, u 101, u 102, u 103, u 104, u 105, u 106, u 107, u 108, u 109, u 110, u 111, u 112, u 113, u 114, u 115, u 116, u 117, u 118], []⟩ := by
  obtain ⟨F, df⟩ := a
  obtain ⟨rfl, hs, rfl, rfl, rfl, rfl, rfl, rfl, rfl, rfl, rfl, rfl, rfl⟩ := h
  refine ⟨fun i => F.getD i undef, ?_⟩
  have e := open_frame F
  rw [hs] at e
  exact congrArg (Act.mk · []) e

set_option maxRecDepth 100000 in
set_option maxHeartbeats 4000000 in
theorem rd15_M (b g r : Nat) (pa : Addr) (off s0 : Nat) (sb s6 s7 s8 s9 s10 s11 : Value) (w : World) (u : Nat → Value) (R : Value → Value → World → Prop) 
    (c0 : w.cell? ⟨b, 0, none⟩ = some (.iface 68 (.pointer (some pa)))) (c3 : w.cell? ⟨g, 3, none⟩ = some (.slice (some ⟨r, 0, none⟩) 4096 4096)) (an : bits .andNot .i64 (off : Int) 4095 = (s0 : Int))
    (hc : Calls Tryz.prog 120 #[.pointer (some pa), .slice (some ⟨r, 0, none⟩) 4096 4096, .int .i64 (s0 : Int)] w.drew fun e w' => ∃ x y, e = .returned (.tuple #[x, y]) ∧ R x y w' ∧ w'.cell? ⟨b, 0, none⟩ = some (.iface 68 (.pointer (some pa))) ∧ w'.cell? ⟨g, 3, none⟩ = some (.slice (some ⟨r, 0, none⟩) 4096 4096)) :
    Code.wp Tryz.prog reg78_15 (fun e a' w' => e = .normal ∧ ∃ x y, frm78p (.pointer (some ⟨b, 0, none⟩)) sb (.int .i64 (off : Int)) s6 y s8 s9 s10 s11 (.pointer (some ⟨g, 0, none⟩)) a' ∧ R x y w')
      ⟨#[.pointer (some ⟨b, 0, none⟩), sb, .int .i64 (off : Int), u 3, u 4, u 5, s6, s7, s8, s9, s10, s11, .pointer (some ⟨g, 0, none⟩), u 13, u 14, u 15, u 16, u 17, u 18, u 19, u 20, u 21, u 22, u 23, u 24, u 25, u 26, u 27, u 28, u 29, u 30, u 31, u 32, u 33, u 34, u 35, u 36, u 37, u 38, u 39, u 40, u 41, u 42, u 43, u 44, u 45, u 46, u 47, u 48, u 49, u 50, u 51, u 52, u 53, u 54, u 55, u 56, u 57, u 58, u 59, u 60, u 61, u 62, u 63, u 64, u 65, u 66, u 67, u 68, u 69, u 70, u 71, u 72, u 73, u 74, u 75, u 76, u 77, u 78, u 79, u 80, u 81, u 82, u 83, u 84, u 85, u 86, u 87, u 88, u 89, u 90, u 91, u 92, u 93, u 94, u 95, u 96, u 97, u 98, u 99, u 100, u 101, u 102, u 103, u 104, u 105, u 106, u 107, u 108, u 109, u 110, u 111, u 112, u 113, u 114, u 115, u 116, u 117, u 118], []⟩ w := by
  have na := nil_ahead_rM pa
  have me := method_rM pa
  have HC := Lib.hid hc
  clear hc
  conv => arg 2; whnf
  go_region_held3 (fun W => W.cell? ⟨b, 0, none⟩ = some (.iface 68 (.pointer (some pa))) ∧ W.cell? ⟨g, 3, none⟩ = some (.slice (some ⟨r, 0, none⟩) 4096 4096))
    (exact ⟨by assumption, by assumption⟩)
    ((go_at_call 120; refine HC.out.mono ?_; rintro e w4 ⟨x, y, rfl, hr, k0, k3⟩; have HR := Lib.hid hr; clear hr; dsimp only))
  exact ⟨rfl, x, y, ⟨rfl, rfl, rfl, rfl, rfl, rfl, rfl, rfl, rfl, rfl, rfl, rfl⟩, HR.out⟩

set_option maxRecDepth 100000 in
set_option maxHeartbeats 4000000 in
theorem rd15_B (b g r : Nat) (pa : Addr) (off s0 : Nat) (sb s6 s7 s8 s9 s10 s11 : Value) (w : World) (u : Nat → Value) (R : Value → Value → World → Prop) 
    (c0 : w.cell? ⟨b, 0, none⟩ = some (.iface 105 (.pointer (some pa)))) (c3 : w.cell? ⟨g, 3, none⟩ = some (.slice (some ⟨r, 0, none⟩) 4096 4096)) (an : bits .andNot .i64 (off : Int) 4095 = (s0 : Int))
    (hc : Calls Tryz.prog 78 #[.pointer (some pa), .slice (some ⟨r, 0, none⟩) 4096 4096, .int .i64 (s0 : Int)] w.drew fun e w' => ∃ x y, e = .returned (.tuple #[x, y]) ∧ R x y w' ∧ w'.cell? ⟨b, 0, none⟩ = some (.iface 105 (.pointer (some pa))) ∧ w'.cell? ⟨g, 3, none⟩ = some (.slice (some ⟨r, 0, none⟩) 4096 4096)) :
    Code.wp Tryz.prog reg78_15 (fun e a' w' => e = .normal ∧ ∃ x y, frm78p (.pointer (some ⟨b, 0, none⟩)) sb (.int .i64 (off : Int)) s6 y s8 s9 s10 s11 (.pointer (some ⟨g, 0, none⟩)) a' ∧ R x y w')
      ⟨#[.pointer (some ⟨b, 0, none⟩), sb, .int .i64 (off : Int), u 3, u 4, u 5, s6, s7, s8, s9, s10, s11, .pointer (some ⟨g, 0, none⟩), u 13, u 14, u 15, u 16, u 17, u 18, u 19, u 20, u 21, u 22, u 23, u 24, u 25, u 26, u 27, u 28, u 29, u 30, u 31, u 32, u 33, u 34, u 35, u 36, u 37, u 38, u 39, u 40, u 41, u 42, u 43, u 44, u 45, u 46, u 47, u 48, u 49, u 50, u 51, u 52, u 53, u 54, u 55, u 56, u 57, u 58, u 59, u 60, u 61, u 62, u 63, u 64, u 65, u 66, u 67, u 68, u 69, u 70, u 71, u 72, u 73, u 74, u 75, u 76, u 77, u 78, u 79, u 80, u 81, u 82, u 83, u 84, u 85, u 86, u 87, u 88, u 89, u 90, u 91, u 92, u 93, u 94, u 95, u 96, u 97, u 98, u 99, u 100, u 101, u 102, u 103, u 104, u 105, u 106, u 107, u 108, u 109, u 110, u 111, u 112, u 113, u 114, u 115, u 116, u 117, u 118], []⟩ w := by
  have na := nil_ahead_rB pa
  have me := method_rB pa
  have HC := Lib.hid hc
  clear hc
  conv => arg 2; whnf
  go_region_held3 (fun W => W.cell? ⟨b, 0, none⟩ = some (.iface 105 (.pointer (some pa))) ∧ W.cell? ⟨g, 3, none⟩ = some (.slice (some ⟨r, 0, none⟩) 4096 4096))
    (exact ⟨by assumption, by assumption⟩)
    ((go_at_call 78; refine HC.out.mono ?_; rintro e w4 ⟨x, y, rfl, hr, k0, k3⟩; have HR := Lib.hid hr; clear hr; dsimp only))
  exact ⟨rfl, x, y, ⟨rfl, rfl, rfl, rfl, rfl, rfl, rfl, rfl, rfl, rfl, rfl, rfl⟩, HR.out⟩


noncomputable def reg78_19 : Code := ((Tryz.f78.body.bind (regionOf 19)).getD .skip)

set_option maxRecDepth 100000 in
set_option maxHeartbeats 4000000 in
theorem rd19 (g r gb o l c rem mm po nc : Nat) (s0 s2 s6 s7 s8 s9 : Value) (w w2 : World) (u : Nat → Value) (hm : min rem 4096 = mm) (hml : mm ≤ l) (hlc : l ≤ c) (hpo : po < 4096)
    (c3 : w.cell? ⟨g, 3, none⟩ = some (.slice (some ⟨r, 0, none⟩) 4096 4096)) (k3 : w2.cell? ⟨g, 3, none⟩ = some (.slice (some ⟨r, 0, none⟩) 4096 4096))
    (hcp : (Builtin.copy_ #[22, 22] 3 #[.slice (some ⟨gb, o, none⟩) mm c, .slice (some ⟨r, po, none⟩) (4096 - po) (4096 - po)]).run Tryz.prog w.drew = .ok (goInt ((nc : Nat) : Int)) w2) :
    Code.wp Tryz.prog reg78_19 (fun e a' w' => e = .normal ∧ frn78p s0 (.slice (some ⟨gb, o, none⟩) l c) s2 s6 s7 s8 s9 (.int .i64 (po : Int)) (.int .i64 (rem : Int)) (.pointer (some ⟨g, 0, none⟩)) (.int .i64 (nc : Int)) a' ∧ w' = w2)
      ⟨#[s0, .slice (some ⟨gb, o, none⟩) l c, s2, u 3, u 4, u 5, s6, s7, s8, s9, .int .i64 (po : Int), .int .i64 (rem : Int), .pointer (some ⟨g, 0, none⟩), u 13, u 14, u 15, u 16, u 17, u 18, u 19, u 20, u 21, u 22, u 23, u 24, u 25, u 26, u 27, u 28, u 29, u 30, u 31, u 32, u 33, u 34, u 35, u 36, u 37, u 38, u 39, u 40, u 41, u 42, u 43, u 44, u 45, u 46, u 47, u 48, u 49, u 50, u 51, u 52, u 53, u 54, u 55, u 56, u 57, u 58, u 59, u 60, u 61, u 62, u 63, u 64, u 65, u 66, u 67, u 68, u 69, u 70, u 71, u 72, u 73, u 74, u 75, u 76, u 77, u 78, u 79, u 80, u 81, u 82, u 83, u 84, u 85, u 86, u 87, u 88, u 89, u 90, u 91, u 92, u 93, u 94, u 95, u 96, u 97, u 98, u 99, u 100, u 101, u 102, u 103, u 104, u 105, u 106, u 107, u 108, u 109, u 110, u 111, u 112, u 113, u 114, u 115, u 116, u 117, u 118], []⟩ w := by
  have MN := Lib.hid (min_any w.drew rem 4096)
  rw [hm] at MN
  clear hm
  conv => arg 2; whnf
  have hne : ¬ 4096 = po := by omega
  have h1 : (po : Int) ≤ 4096 := by omega
  have h2 : mm ≤ c := by omega
  have h3 : (mm : Int) ≤ c := by omega
  have h4 : (0 : Int) ≤ mm := by omega
  have h5 : (0 : Int) ≤ po := by omega
  go_region_held3 (fun W => W.cell? ⟨g, 3, none⟩ = some (.slice (some ⟨r, 0, none⟩) 4096 4096))
    (exact (by assumption))
    ((go_at_call 100; refine MN.out.mono ?_; rintro e w4 ⟨rfl, rfl⟩; dsimp only))
  exact ⟨rfl, ⟨rfl, rfl, rfl, rfl, rfl, rfl, rfl, rfl, rfl, rfl, rfl, rfl, rfl⟩, rfl⟩

/-- the dynamic type of level k as a Filer -/
def parT : Nat → TypeId
  | 0 => 68
  | _ + 1 => 105

theorem St.par_eq (S : St) (k : Nat) : S.par k = .iface (parT k) (.pointer (some (S.ptr k))) := by cases k <;> rfl

theorem rd15 (k b g r : Nat) (pa : Addr) (off s0 : Nat) (sb s6 s7 s8 s9 s10 s11 : Value) (w : World) (a : Act) (R : Value → Value → World → Prop)
    (ha : frm78p (.pointer (some ⟨b, 0, none⟩)) sb (.int .i64 (off : Int)) s6 s7 s8 s9 s10 s11 (.pointer (some ⟨g, 0, none⟩)) a)
    (c0 : w.cell? ⟨b, 0, none⟩ = some (.iface (parT k) (.pointer (some pa)))) (c3 : w.cell? ⟨g, 3, none⟩ = some (.slice (some ⟨r, 0, none⟩) 4096 4096)) (an : bits .andNot .i64 (off : Int) 4095 = (s0 : Int))
    (hc : Calls Tryz.prog (rdFn k) #[.pointer (some pa), .slice (some ⟨r, 0, none⟩) 4096 4096, .int .i64 (s0 : Int)] w.drew fun e w' => ∃ x y, e = .returned (.tuple #[x, y]) ∧ R x y w' ∧ w'.cell? ⟨b, 0, none⟩ = some (.iface (parT k) (.pointer (some pa))) ∧ w'.cell? ⟨g, 3, none⟩ = some (.slice (some ⟨r, 0, none⟩) 4096 4096)) :
    Code.wp Tryz.prog reg78_15 (fun e a' w' => e = .normal ∧ ∃ x y, frm78p (.pointer (some ⟨b, 0, none⟩)) sb (.int .i64 (off : Int)) s6 y s8 s9 s10 s11 (.pointer (some ⟨g, 0, none⟩)) a' ∧ R x y w') a w := by
  obtain ⟨u, rfl⟩ := frm78 ha
  cases k with
  | zero => exact rd15_M b g r pa off s0 sb s6 s7 s8 s9 s10 s11 w u R c0 c3 an hc
  | succ k => exact rd15_B b g r pa off s0 sb s6 s7 s8 s9 s10 s11 w u R c0 c3 an hc

theorem rd19' (g r gb o l c rem mm po nc : Nat) (s0 s2 s6 s7 s8 s9 : Value) (w w2 : World) (a : Act) (ha : frm78p s0 (.slice (some ⟨gb, o, none⟩) l c) s2 s6 s7 s8 s9 (.int .i64 (po : Int)) (.int .i64 (rem : Int)) (.pointer (some ⟨g, 0, none⟩)) a) (hm : min rem 4096 = mm) (hml : mm ≤ l) (hlc : l ≤ c) (hpo : po < 4096)
    (c3 : w.cell? ⟨g, 3, none⟩ = some (.slice (some ⟨r, 0, none⟩) 4096 4096)) (k3 : w2.cell? ⟨g, 3, none⟩ = some (.slice (some ⟨r, 0, none⟩) 4096 4096))
    (hcp : (Builtin.copy_ #[22, 22] 3 #[.slice (some ⟨gb, o, none⟩) mm c, .slice (some ⟨r, po, none⟩) (4096 - po) (4096 - po)]).run Tryz.prog w.drew = .ok (goInt ((nc : Nat) : Int)) w2) :
    Code.wp Tryz.prog reg78_19 (fun e a' w' => e = .normal ∧ frn78p s0 (.slice (some ⟨gb, o, none⟩) l c) s2 s6 s7 s8 s9 (.int .i64 (po : Int)) (.int .i64 (rem : Int)) (.pointer (some ⟨g, 0, none⟩)) (.int .i64 (nc : Int)) a' ∧ w' = w2) a w := by
  obtain ⟨u, rfl⟩ := frm78 ha
  exact rd19 g r gb o l c rem mm po nc s0 s2 s6 s7 s8 s9 w w2 u hm hml hlc hpo c3 k3 hcp

end Go.Proofs.YtkkliejgmgmebaaGreatDoor

namespace Go.Proofs.YtkkliejgmgmebaaGreatDoor
open Go.RowKit

theorem splice_splice {α : Type} (xs A B : List α) (o : Nat) (hA : A.length = o) : splice (splice xs 0 A) o B = splice xs 0 (A ++ B) := by
  subst hA
  simp only [splice, List.take_zero, List.nil_append, Nat.zero_add, List.length_append]
  rw [List.take_left, List.drop_append, List.drop_drop]
  simp

theorem St.rd_add (S : St) (k off o n : Nat) : S.rd k off (o + n) = S.rd k off o ++ S.rd k (off + o) n := by
  unfold St.rd
  rw [List.range_add, List.map_append, List.map_map]
  congr 1
  refine List.map_congr_left fun i _ => ?_
  simp [Nat.add_assoc]

/-- what level k + 1 sees within a page that is there -/
theorem St.rd_page {S : St} {k q po n : Nat} {x : Pg} (hx : (S.L (k + 1)).f q = some x) (hl : x.bs.length = 4096) (hn : po + n ≤ 4096) : S.rd (k + 1) (q * 4096 + po) n = (x.bs.drop po).take n := by
  apply List.ext_getElem?
  intro j
  by_cases hj : j < n
  · rw [List.getElem?_take_of_lt hj, List.getElem?_drop]
    unfold St.rd
    rw [List.getElem?_map, List.getElem?_range hj]
    simp only [Option.map_some]
    unfold St.raw
    rw [show (q * 4096 + po + j) / 4096 = q by omega, hx, show (q * 4096 + po + j) % 4096 = po + j by omega]
    simp [List.getElem?_eq_getElem (show po + j < x.bs.length by omega)]
  · rw [List.getElem?_eq_none (by rw [St.rd_length]; omega), List.getElem?_eq_none (by rw [List.length_take]; omega)]

/-- the blocks of a new page: the page, its bytes, the variable that holds these -/
abbrev newPg (w : World) : World :=
  ((w.alloc (.cells #[.pointer none, .pointer none, .pointer (some ⟨w.heap.size + 1 + 1, 0, none⟩), .slice (some ⟨w.heap.size + 1, 0, none⟩) 4096 4096, .bool false] 153)).alloc (.cells (madeCells #[.int .u8 0] 4096) 5)).alloc (.cells #[.slice (some ⟨w.heap.size + 1, 0, none⟩) 4096 4096] 22)

theorem newPg_facts (w : World) : (newPg w).heap.size = w.heap.size + 3 ∧ Keeps (Old w) w (newPg w) ∧
    (newPg w).heap[w.heap.size]? = some (.cells #[.pointer none, .pointer none, .pointer (some ⟨w.heap.size + 1 + 1, 0, none⟩), .slice (some ⟨w.heap.size + 1, 0, none⟩) 4096 4096, .bool false] 153 (0, 0)) ∧
    Row NoP (newPg w) 5 1 (.slice (some ⟨w.heap.size + 1, 0, none⟩) 4096 4096) 4096 (u8s (List.replicate 4096 0)) := by
  unfold newPg
  generalize hP : Obj.cells #[.pointer none, .pointer none, .pointer (some ⟨w.heap.size + 1 + 1, 0, none⟩), .slice (some ⟨w.heap.size + 1, 0, none⟩) 4096 4096, .bool false] 153 = P
  have h1 := heap_alloc_new w P
  have s1 : (w.alloc P).heap.size = w.heap.size + 1 := by simp
  have r1 := Row.make NoP (w.alloc P) (fun _ h => h.elim) 5 (.int .u8 0) 4096 (by omega) (B := w.heap.size + 1) s1.symm
  have k1 : Keeps (Old w) w (w.alloc P) := Keeps.alloc (fun _ h => h) _
  generalize w.alloc P = w1 at *
  have s2 : (w1.alloc (.cells (madeCells #[.int .u8 0] 4096) 5)).heap.size = w.heap.size + 2 := by rw [size_alloc', s1]
  have h2 := (heap_alloc_lt w1 (.cells (madeCells #[.int .u8 0] 4096) 5) (show w.heap.size < w1.heap.size by omega)).trans h1
  have k2 := k1.trans (Keeps.alloc (w := w1) (fun k (h : k < w.heap.size) => by omega) (.cells (madeCells #[.int .u8 0] 4096) 5))
  generalize w1.alloc (.cells (madeCells #[.int .u8 0] 4096) 5) = w2 at *
  have s3 : (w2.alloc (.cells #[.slice (some ⟨w.heap.size + 1, 0, none⟩) 4096 4096] 22)).heap.size = w.heap.size + 3 := by rw [size_alloc', s2]
  have h3 := (heap_alloc_lt w2 (.cells #[.slice (some ⟨w.heap.size + 1, 0, none⟩) 4096 4096] 22) (show w.heap.size < w2.heap.size by omega)).trans h2
  have r3 := r1.alloc (.cells #[.slice (some ⟨w.heap.size + 1, 0, none⟩) 4096 4096] 22)
  have k3 := k2.trans (Keeps.alloc (w := w2) (fun k (h : k < w.heap.size) => by omega) (.cells #[.slice (some ⟨w.heap.size + 1, 0, none⟩) 4096 4096] 22))
  rw [u8s_zeros] at r3
  exact ⟨s3, k3, h3, r3⟩

theorem newPg_drew (w : World) : (newPg w).drew.heap.size = w.heap.size + 3 ∧ Keeps (Old w) w (newPg w).drew ∧
    (newPg w).drew.heap[w.heap.size]? = some (.cells #[.pointer none, .pointer none, .pointer (some ⟨w.heap.size + 1 + 1, 0, none⟩), .slice (some ⟨w.heap.size + 1, 0, none⟩) 4096 4096, .bool false] 153 (0, 0)) ∧
    Row NoP (newPg w).drew 5 1 (.slice (some ⟨w.heap.size + 1, 0, none⟩) 4096 4096) 4096 (u8s (List.replicate 4096 0)) := by
  obtain ⟨h1, h2, h3, h4⟩ := newPg_facts w
  exact ⟨h1, h2.trans (Keeps.drew _ _), h3, h4.drew⟩

/-- a page is put into its level's map -/
theorem StIs.addPage {tg : Nat → Nat × Nat} {w w' : World} {S : St} {k p : Nat} {x : Pg} (h : StIs tg w S) (hk : k < S.t) (hg : w.grownBy w' (some (S.L (k + 1)).m))
    (hm : MapIs w' (S.L (k + 1)).m (setF (fun q => ((S.L (k + 1)).f q).map Pg.g) p (some x.g))) (hx : PageAt w x) (hxg : 100 ≤ (tg x.g).1) (hxr : 100 ≤ (tg x.r).1) (hpl : x.pv = none ∧ x.nx = none) :
    StIs (fun j => if j = x.g ∨ j = x.r then (k + 1, p) else tg j) w' (S.setL (k + 1) ((S.L (k + 1)).set p x)) := by
  have hl := h.lv k hk
  have htt := h.tt
  have keep : ∀ j, j < w.heap.size → j ≠ (S.L (k + 1)).m → w'.heap[j]? = w.heap[j]? := fun j h1 h2 => hg.block j h1 (fun e => h2 (Option.some.inj e))
  have mt := hl.tm
  have tgs : ∀ j, (tg j).1 ≤ S.t → (fun j => if j = x.g ∨ j = x.r then (k + 1, p) else tg j) j = tg j := fun j hj => by
    dsimp only
    rw [if_neg]
    rintro (e | e)
    · subst e; omega
    · subst e; omega
  have e1 := St.setL_same S (k + 1) ((S.L (k + 1)).set p x)
  refine ⟨h.mem.retag (fun j h1 h2 => keep j h1 (fun e => by subst e; omega)) (fun j _ h2 => tgs j (by omega)), fun j hj => ?_, h.fb, htt, h.pl.setL ((h.pl k hk).set hpl)⟩
  have hpar : (S.setL (k + 1) ((S.L (k + 1)).set p x)).par j = S.par j := by
    cases j with
    | zero => rfl
    | succ j =>
      show Value.iface _ (.pointer (some ⟨((S.setL (k + 1) ((S.L (k + 1)).set p x)).L (j + 1)).b, 0, none⟩)) = .iface _ (.pointer (some ⟨(S.L (j + 1)).b, 0, none⟩))
      by_cases e : j + 1 = k + 1
      · rw [e, e1]; rfl
      · rw [St.setL_other S _ e]
  rw [hpar]
  have hj' : j < S.t := hj
  by_cases e : j = k
  · subst e
    rw [e1]
    have nb : (S.L (j + 1)).b ≠ (S.L (j + 1)).m := fun e => by
      obtain ⟨es, c, hmm⟩ := hl.map.isMap
      rw [← e, hl.cb] at hmm
      cases hmm
    refine ⟨(keep _ hl.blt nb).trans hl.cb, ?_, ?_, ?_, fun q y hy => ?_, hl.sz⟩
    · show ((fun i => if i = x.g ∨ i = x.r then (j + 1, p) else tg i) (S.L (j + 1)).b).1 = j + 1
      rw [tgs _ (by have := hl.tb; omega)]; exact hl.tb
    · show ((fun i => if i = x.g ∨ i = x.r then (j + 1, p) else tg i) (S.L (j + 1)).m).1 = j + 1
      rw [tgs _ (by omega)]; exact mt
    · have e2 : (fun q => (((S.L (j + 1)).set p x).f q).map Pg.g) = setF (fun q => ((S.L (j + 1)).f q).map Pg.g) p (some x.g) := by
        funext q
        unfold Lv.set setF
        dsimp only
        split <;> rfl
      show MapIs w' (S.L (j + 1)).m (fun q => (((S.L (j + 1)).set p x).f q).map Pg.g)
      rw [e2]
      exact hm
    · unfold Lv.set at hy
      dsimp only at hy
      split at hy
      · rename_i eq
        subst eq
        cases hy
        exact ⟨hx.kept (keep _ hx.glt (fun e => by rw [e] at hxg; omega)) (keep _ hx.rlt (fun e => by rw [e] at hxr; omega)), if_pos (.inl rfl), if_pos (.inr rfl)⟩
      · obtain ⟨h1, h2, h3⟩ := hl.page q y hy
        have ny : y.g ≠ (S.L (j + 1)).m := fun e => by
          obtain ⟨pd, hc⟩ := h1.cell
          obtain ⟨es, c, hmm⟩ := hl.map.isMap
          rw [e, hmm] at hc
          cases hc
        have nr : y.r ≠ (S.L (j + 1)).m := fun e => by
          obtain ⟨-, -, cur, hc⟩ := h1.row.own (k := y.r) rfl
          obtain ⟨es, c, hmm⟩ := hl.map.isMap
          rw [e, hmm] at hc
          cases hc
        exact ⟨h1.kept (keep _ h1.glt ny) (keep _ h1.rlt nr), (tgs _ (by rw [h2]; exact hj')).trans h2, (tgs _ (by rw [h3]; exact hj')).trans h3⟩
  · rw [St.setL_other S _ (show j + 1 ≠ k + 1 by omega)]
    exact (h.lv j hj').kept (fun i h1 h2 => keep i h1 (fun e2 => by subst e2; omega)) (fun i _ h2 => tgs i (by omega))

theorem u8s_take (xs : List UInt8) (n : Nat) : u8s (xs.take n) = (u8s xs).take n := List.map_take

/-- the bytes of a page, copied into a buffer -/
theorem page_copy {w : World} {x : Pg} {gb n o mm po nc : Nat} {xs : List UInt8} (hx : PageAt w x) (hb : Row NoP w 5 1 (.slice (some ⟨gb, 0, none⟩) n n) n (u8s xs)) (hpo : po < 4096) (hom : o + mm ≤ n) (hmm : 0 < mm) (hnc : min (4096 - po) mm = nc) :
    ∃ w2, (Builtin.copy_ #[22, 22] 3 #[.slice (some ⟨gb, o, none⟩) mm (n - o), .slice (some ⟨x.r, po, none⟩) (4096 - po) (4096 - po)]).run Tryz.prog w = .ok (goInt ((nc : Nat) : Int)) w2 ∧
      Row NoP w2 5 1 (.slice (some ⟨gb, 0, none⟩) n n) n (u8s (splice xs o ((x.bs.drop po).take nc))) ∧ w.grownBy w2 (some gb) := by
  have r := hx.row.piece po (4096 - po) (by omega)
  rw [if_neg (by omega), u8s_piece, List.take_of_length_le (by rw [List.length_drop, hx.len]; exact Nat.le_refl _)] at r
  have ha : (⟨x.r, 0, none⟩ : Addr).add po = ⟨x.r, po, none⟩ := by unfold Addr.add; split <;> simp_all
  rw [Option.map_some, ha] at r
  obtain ⟨w2, hrun, hr2, hg2⟩ := run_copy_rv (P := Tryz.prog) hb 22 22 3 Tryz.underlying22 (by kernel_rfl) (off := o) (dl := mm) (dcap := n - o) (by omega) _ (4096 - po) (4096 - po) _ r (one_u8s _) (by omega)
  rw [hnc] at hrun hr2
  refine ⟨w2, hrun, ?_, hg2⟩
  rw [u8s_splice, u8s_take]
  exact hr2

/-- a page has been read from the level beneath; it is not in the map yet -/
structure Loaded (tg : Nat → Nat × Nat) (w : World) (S : St) (k p : Nat) (va vb : Addr) (y : Value) (bs : List UInt8) (tg2 : Nat → Nat × Nat) (S2 : St) (w2 : World) : Prop where
  er : y = .nilIface ∨ y = .iface 115 (.pointer (some va))
  ld : Loads k S S2
  tags : ∀ j, j < w.heap.size → tg2 j = tg j
  st : StIs tg2 w2 S2
  page : PageAt w2 ⟨w.heap.size, w.heap.size + 1, bs, false, none, none⟩
  tgg : (tg2 w.heap.size).1 = 500
  tgr : (tg2 (w.heap.size + 1)).1 = 500
  bytes : ∀ i, i < 4096 → bs.getD i 0 = if p * 4096 + i < S.size k then S.raw k (p * 4096 + i) else 0
  kp : Keeps (fun j => j < w.heap.size ∧ k < (tg j).1) w w2
  vars : VarsO tg2 w2 va vb

theorem splice_getD (xs : List UInt8) (A : List UInt8) (h : A.length ≤ xs.length) (i : Nat) : (splice xs 0 A).getD i 0 = if i < A.length then A.getD i 0 else xs.getD i 0 := by
  rw [List.getD_eq_getElem?_getD, splice_get _ _ _ (by omega), if_neg (by omega), Nat.zero_add, Nat.sub_zero]
  split
  · rw [List.getD_eq_getElem?_getD]
  · rw [List.getD_eq_getElem?_getD]

theorem St.rd_getD (S : St) (k off d i : Nat) (h : i < d) : (S.rd k off d).getD i 0 = S.raw k (off + i) := by
  unfold St.rd
  rw [List.getD_eq_getElem?_getD, List.getElem?_map, List.getElem?_range h]
  rfl

theorem Vars.drew {Pr : Nat → Prop} {w : World} {a b : Addr} (h : Vars Pr w a b) : Vars Pr w.drew a b := ⟨h.p0, h.p1, h.e0, h.e1⟩

theorem rep_getD (n i : Nat) : (List.replicate n (0 : UInt8)).getD i 0 = 0 := by
  rw [List.getD_eq_getElem?_getD, List.getElem?_replicate]
  split <;> rfl

/-- the level beneath is read into a new page -/
theorem load_call {k : Nat} {tg : Nat → Nat × Nat} {w : World} {S : St} {p : Nat} {va vb : Addr} (ih : RdSpec k) (h : StIs tg w S) (hk : k < S.t) (hV : VarsO tg w va vb) (hp : p * 4096 ≤ 1000000) :
    Calls Tryz.prog (rdFn k) #[.pointer (some (S.ptr k)), .slice (some ⟨w.heap.size + 1, 0, none⟩) 4096 4096, .int .i64 ((p * 4096 : Nat) : Int)] (newPg w).drew fun e w2 => ∃ x y, e = .returned (.tuple #[x, y]) ∧ (∃ bs tg2 S2, Loaded tg w S k p va vb y bs tg2 S2 w2) ∧
      w2.cell? ⟨(S.L (k + 1)).b, 0, none⟩ = some (.iface (parT k) (.pointer (some (S.ptr k)))) ∧ w2.cell? ⟨w.heap.size, 3, none⟩ = some (.slice (some ⟨w.heap.size + 1, 0, none⟩) 4096 4096) := by
  obtain ⟨nz, nk, ng, nr⟩ := newPg_drew w
  have htt := h.tt
  have hl := h.lv k hk
  have hblt := hl.blt
  have zl : (List.replicate 4096 (0 : UInt8)).length = 4096 := List.length_replicate
  have z0 := rep_getD 4096
  generalize List.replicate 4096 (0 : UInt8) = Z at *
  generalize (newPg w).drew = W at *
  obtain ⟨tg4, t4o, t4g, t4r⟩ : ∃ tg4 : Nat → Nat × Nat, (∀ j, j < w.heap.size → tg4 j = tg j) ∧ tg4 w.heap.size = (500, 0) ∧ tg4 (w.heap.size + 1) = (500, 0) :=
    ⟨fun j => if j < w.heap.size then tg j else (500, 0), fun j hj => if_pos hj, if_neg (by omega), if_neg (by omega)⟩
  have h4 : StIs tg4 W S := h.kept (fun j h1 _ => nk.block j h1) (fun j h1 _ => t4o j h1)
  have hV4 : VarsO tg4 W va vb := by
    have hv : VarsO tg4 W va vb := (hV.keeps (nk.mono fun j hj => hj.1)).mono fun j hj => ⟨Nat.lt_of_lt_of_le hj.1 nk.size, by rw [t4o j hj.1]; exact hj.2⟩
    exact hv
  have hc := ih tg4 W S (w.heap.size + 1) 4096 (p * 4096) Z va vb h4 (by omega) (by rw [t4r]; decide) (by rw [t4r]; decide) hV4 nr (by omega) (by omega) hp
  refine hc.mono ?_
  rintro e w2 ⟨tg2, S2, d, er, rfl, hd, her, hld, htg, hst, hrow, hkp⟩
  have hkg : ∀ j, j < w.heap.size + 3 → k < (tg4 j).1 → j ≠ w.heap.size + 1 → w2.heap[j]? = W.heap[j]? := fun j h1 h2 h3 => hkp.block j ⟨by omega, h2, h3⟩
  have hgw := hkg w.heap.size (by omega) (by rw [t4g]; show k < 500; omega) (by omega)
  have hbw := hkg (S.L (k + 1)).b (by omega) (by rw [t4o _ hblt, hl.tb]; omega) (by omega)
  have hlen : (S.rd k (p * 4096) d).length = d := S.rd_length _ _ _
  have hkeep : Keeps (fun j => j < w.heap.size ∧ k < (tg j).1) w w2 :=
    (nk.mono fun j hj => hj.1).trans ⟨hkp.os, hkp.tape, hkp.output, hkp.size, fun j hj => hkp.block j ⟨by omega, by rw [t4o j hj.1]; exact hj.2, by omega⟩⟩
  have hgW := hgw.trans ng
  refine ⟨_, er, rfl, ⟨splice Z 0 (S.rd k (p * 4096) d), tg2, S2, her, hld, fun j hj => (htg j (by omega)).trans (t4o j hj), hst, ⟨⟨_, hgW⟩, hrow⟩, ?_, ?_, fun i hi => ?_, hkeep, ?_⟩, ?_, ?_⟩
  · rw [htg _ (by omega), t4g]
  · rw [htg _ (by omega), t4r]
  · rw [splice_getD _ _ (by rw [hlen, zl]; omega), hlen]
    by_cases hid : i < d
    · rw [if_pos hid, if_pos (by omega), St.rd_getD _ _ _ _ _ hid]
    · rw [if_neg hid, if_neg (by omega)]
      exact z0 i
  · have hv := hV4.keeps (hkp.mono fun j (hj : j < W.heap.size ∧ 1000 ≤ (tg4 j).1) => ⟨hj.1, by omega, fun e => by subst e; rw [t4r] at hj; exact absurd hj.2 (by decide)⟩)
    exact hv.mono fun j hj => ⟨Nat.lt_of_lt_of_le hj.1 hkp.size, by rw [htg j hj.1]; exact hj.2⟩
  · have hcb := (hbw.trans (nk.block _ hblt)).trans hl.cb
    rw [St.par_eq] at hcb
    exact (cells_at hcb).1 0
  · exact (cells_at hgW).1 3

/-- .. and is put into the map -/
theorem Loaded.put {tg tg2 : Nat → Nat × Nat} {w w2 : World} {S S2 : St} {k p : Nat} {va vb : Addr} {y : Value} {bs : List UInt8} (h : Loaded tg w S k p va vb y bs tg2 S2 w2) (h0 : StIs tg w S) (hk : k < S.t) (hf : (S.L (k + 1)).f p = none) (hp : p < 73) :
    ∃ w3 tg3 S3, (Instr.mapUpdate 138 (.map (some (S.L (k + 1)).m)) (.int .i64 (p : Int)) (.pointer (some ⟨w.heap.size, 0, none⟩))).run Tryz.prog w2 = .ok () w3 ∧
      (S3.L (k + 1)).f p = some ⟨w.heap.size, w.heap.size + 1, bs, false, none, none⟩ ∧ Loads (k + 1) S S3 ∧ (∀ j, j < w.heap.size → tg3 j = tg j) ∧ StIs tg3 w3 S3 ∧ Keeps (fun j => j < w.heap.size ∧ k + 1 < (tg j).1) w w3 := by
  have hk2 : k < S2.t := by rw [h.ld.t]; exact hk
  have hL : S2.L (k + 1) = S.L (k + 1) := h.ld.up _ (Nat.lt_succ_self k)
  have hl := h.st.lv k hk2
  have hl0 := h0.lv k hk
  obtain ⟨w3, hrun, hm3, hg3⟩ := hl.map.put (g := w.heap.size) hp
  rw [hL] at hrun
  have hf2 : (S2.L (k + 1)).f p = none := by rw [hL]; exact hf
  have hst := h.st.addPage hk2 hg3 hm3 h.page (by rw [h.tgg]; decide) (by rw [h.tgr]; decide) ⟨rfl, rfl⟩
  have hld := Loads.page (S := S2) (k := k) (p := p) (x := ⟨w.heap.size, w.heap.size + 1, bs, false, none, none⟩) hf2 rfl fun i hi => by
    rw [h.bytes i hi, h.ld.size, h.ld.raw]
  refine ⟨w3, _, _, hrun, ?_, (h.ld.mono (Nat.le_succ k)).trans hld, fun j hj => ?_, hst, ?_⟩
  · rw [St.setL_same]; exact if_pos rfl
  · show (if j = w.heap.size ∨ j = w.heap.size + 1 then (k + 1, p) else tg2 j) = tg j
    rw [if_neg (by omega)]
    exact h.tags j hj
  · have hmlt := hl0.mlt
    have hmt := hl0.tm
    refine (h.kp.mono fun j hj => ⟨hj.1, by omega⟩).trans (Keeps.grown (fun j hj => Nat.lt_of_lt_of_le hj.1 h.kp.size) hg3 fun j e hj => ?_)
    simp only [Option.some.injEq] at e
    rw [hL] at e
    subst e
    omega

end Go.Proofs.YtkkliejgmgmebaaGreatDoor
