/-
  Collate's round: x of the class i64 (printed by gen7.py).
-/
import Derived.Test.YtaoonpncnahhgaaDoorC7
namespace Go.Proofs.YtaoonpncnahhgaaDoor
open Go.RowKit

set_option maxRecDepth 100000 in
set_option maxHeartbeats 8000000 in
theorem round_i64 (K : Act → World → Prop) (Q0 : Exit → Act → World → Prop) (w : World) (b o b' o' m1 d1 m2 d2 k n1 n2 : Nat) (r : Int) (v v' : Value) (n : Int) (cy : AV) (u : Nat → Value) (_hn1 : -9223372036854775808 ≤ n) (hn2 : n ≤ 9223372036854775807) (hy : IsCt cy)
    (hk : k < m1) (hk2 : k < m2) (_hm : m2 ≤ 2147483647) (hm1 : m1 ≤ 2147483647) (HR : Hid (r = 1 ∨ r = -1))
    (hv : w.cell? ⟨b, o + k, none⟩ = some v) (hv' : w.cell? ⟨b', o' + k, none⟩ = some v')
    (HC : Hid (Calls Tryd.prog 42 #[v] w fun e w' => e = .returned (.tuple #[.iface 2 (.int .i64 n), .nilIface]) ∧ w' = w))
    (HC' : Hid (Calls Tryd.prog 42 #[v'] w fun e w' => (∃ t, e = .returned (.tuple #[t, .nilIface]) ∧ avIs w.heap.size w cy t) ∧ w' = w))
    (HRET : Hid (∀ c rq : Int, cmpA (.i64 n) cy = c → c ≠ 0 → c * r = rq → ∀ a' : Act, a'.tmps.getD 6 undef = .int .i64 rq → a'.tmps.getD 7 undef = .nilIface → a'.defers = [] → a'.tmps.size = 477 → Q0 .ret a' w))
    (HNEXT : Hid (cmpA (.i64 n) cy = 0 → ∀ a', Sl (.slice (some ⟨b, o, none⟩) m1 d1) (.slice (some ⟨b', o', none⟩) m2 d2) (.int .i64 r) (.int .i64 n1) (.int .i64 n2) (.int .i64 0) (.slice (some ⟨b, o, none⟩) m1 d1) (.int .i64 m1) (.int .i64 ((k + 1 : Nat) : Int)) a' → K a' w)) :
    Code.wp Tryd.prog body30 (Exit.then K Q0) (frm (.slice (some ⟨b, o, none⟩) m1 d1) (.slice (some ⟨b', o', none⟩) m2 d2) (.int .i64 r) (.int .i64 n1) (.int .i64 n2) (.int .i64 0) (.slice (some ⟨b, o, none⟩) m1 d1) (.int .i64 m1) (.int .i64 k) u) w := by
  conv => arg 2; whnf
  unfold frm
  have hr := wrap_neg HR.out
  (repeat (first | go_values | go_skip | go_guarded | go_step | go_upon))
  refine HC.out.mono ?_
  rintro e w1 ⟨rfl, rfl⟩
  dsimp only
  (repeat (first | go_values | go_skip | go_guarded | go_step | go_upon))
  refine HC'.out.mono ?_
  rintro e w1 ⟨⟨t, rfl, ht⟩, rfl⟩
  dsimp only
  have HT := Lib.hid ht
  clear ht
  cases hy
  case nil =>
    obtain rfl : t = .nilIface := HT.out
    (repeat (first | go_values | go_skip | go_guarded | go_step | go_upon))
    exact HRET.out 1 r rfl (by decide) (by omega) _ rfl rfl rfl rfl
  case bool p2 =>
    obtain rfl : t = .iface 4 (.bool p2) := HT.out
    (repeat (first | go_values | go_skip | go_guarded | go_step | go_upon))
    exact HRET.out 1 r rfl (by decide) (by omega) _ rfl rfl rfl rfl
  case i64 y y1 y2 =>
    obtain rfl : t = .iface 2 (.int .i64 y) := HT.out
    (repeat (first | go_values | go_skip | go_guarded | go_step | go_upon))
    refine (named (cint_any n y w1)).mono ?_
    rintro e w2 ⟨c, hc, rfl, rfl⟩
    dsimp only
    have h3 := Lib.hid (cmpI_range n y)
    rw [hc] at h3
    have HCC := Lib.hid hc
    clear hc
    by_cases h0 : c = 0
    · subst h0
      clear h3
      (repeat (first | go_values | go_skip | go_guarded | go_step | go_upon))
      exact HNEXT.out HCC.out _ ⟨rfl, rfl, rfl, rfl, rfl, rfl, rfl, rfl, rfl, rfl, rfl, by first | rfl | (exact congrArg (Value.int .i64) (by omega))⟩
    · have g0 : (c != 0) = true := by simpa using h0
      have hw := wrap_order HR.out h3.out
      (repeat (first | go_values | go_skip | go_guarded | go_step | go_upon))
      exact HRET.out c (c * r) HCC.out h0 rfl _ rfl rfl rfl rfl
  case u64 y y1 =>
    obtain rfl : t = .iface 32 (.int .u64 (y : Int)) := HT.out
    (repeat (first | go_values | go_skip | go_guarded | go_step | go_upon))
    refine (named (cintuint_any n y w1 hn2 y1)).mono ?_
    rintro e w2 ⟨c, hc, rfl, rfl⟩
    dsimp only
    have h3 := Lib.hid (cmpI_range n (y : Int))
    rw [hc] at h3
    have HCC := Lib.hid hc
    clear hc
    by_cases h0 : c = 0
    · subst h0
      clear h3
      (repeat (first | go_values | go_skip | go_guarded | go_step | go_upon))
      exact HNEXT.out HCC.out _ ⟨rfl, rfl, rfl, rfl, rfl, rfl, rfl, rfl, rfl, rfl, rfl, by first | rfl | (exact congrArg (Value.int .i64) (by omega))⟩
    · have g0 : (c != 0) = true := by simpa using h0
      have hw := wrap_order HR.out h3.out
      (repeat (first | go_values | go_skip | go_guarded | go_step | go_upon))
      exact HRET.out c (c * r) HCC.out h0 rfl _ rfl rfl rfl rfl
  case f64 y =>
    obtain rfl : t = .iface 76 (.float .f64 y) := HT.out
    (repeat (first | go_values | go_skip | go_guarded | go_step | go_upon))
    refine (named (cflt_any (floatOfInt .f64 n) y w1)).mono ?_
    rintro e w2 ⟨c, hc, rfl, rfl⟩
    dsimp only
    have h3 := Lib.hid (ordF_range (floatOfInt .f64 n) y)
    rw [hc] at h3
    have HCC := Lib.hid hc
    clear hc
    by_cases h0 : c = 0
    · subst h0
      clear h3
      (repeat (first | go_values | go_skip | go_guarded | go_step | go_upon))
      exact HNEXT.out HCC.out _ ⟨rfl, rfl, rfl, rfl, rfl, rfl, rfl, rfl, rfl, rfl, rfl, by first | rfl | (exact congrArg (Value.int .i64) (by omega))⟩
    · have g0 : (c != 0) = true := by simpa using h0
      have hw := wrap_order HR.out h3.out
      (repeat (first | go_values | go_skip | go_guarded | go_step | go_upon))
      exact HRET.out c (c * r) HCC.out h0 rfl _ rfl rfl rfl rfl
  case c128 y z =>
    obtain rfl : t = .iface 80 (.complex .f64 y z) := HT.out
    (repeat (first | go_values | go_skip | go_guarded | go_step | go_upon))
    refine (named (ccpx_any (floatOfInt .f64 n) 0 y z w1)).mono ?_
    rintro e w2 ⟨c, hc, rfl, rfl⟩
    dsimp only
    have h3 := Lib.hid (ordC_range (floatOfInt .f64 n) 0 y z)
    rw [hc] at h3
    have HCC := Lib.hid hc
    clear hc
    by_cases h0 : c = 0
    · subst h0
      clear h3
      (repeat (first | go_values | go_skip | go_guarded | go_step | go_upon))
      exact HNEXT.out HCC.out _ ⟨rfl, rfl, rfl, rfl, rfl, rfl, rfl, rfl, rfl, rfl, rfl, by first | rfl | (exact congrArg (Value.int .i64) (by omega))⟩
    · have g0 : (c != 0) = true := by simpa using h0
      have hw := wrap_order HR.out h3.out
      (repeat (first | go_values | go_skip | go_guarded | go_step | go_upon))
      exact HRET.out c (c * r) HCC.out h0 rfl _ rfl rfl rfl rfl
  case byt ys =>
    obtain ⟨ay, ny, cy, rfl, -, -, h5, -⟩ := HT.out
    have HY := Lib.hid h5
    clear h5
    (repeat (first | go_values | go_skip | go_guarded | go_step | go_upon))
    exact HRET.out (-1) (-r) rfl (by decide) (by omega) _ rfl rfl rfl rfl
  case str ys =>
    obtain rfl : t = .iface 9 (.string ⟨ys.toArray⟩) := HT.out
    (repeat (first | go_values | go_skip | go_guarded | go_step | go_upon))
    exact HRET.out (-1) (-r) rfl (by decide) (by omega) _ rfl rfl rfl rfl

end Go.Proofs.YtaoonpncnahhgaaDoor

namespace Go.Proofs.YtaoonpncnahhgaaDoor
open Go.RowKit

set_option maxRecDepth 100000 in
set_option maxHeartbeats 8000000 in
theorem round_u64 (K : Act → World → Prop) (Q0 : Exit → Act → World → Prop) (w : World) (b o b' o' m1 d1 m2 d2 k n1 n2 : Nat) (r : Int) (v v' : Value) (n : Nat) (cy : AV) (u : Nat → Value) (hn2 : n < 18446744073709551616) (hy : IsCt cy)
    (hk : k < m1) (hk2 : k < m2) (_hm : m2 ≤ 2147483647) (hm1 : m1 ≤ 2147483647) (HR : Hid (r = 1 ∨ r = -1))
    (hv : w.cell? ⟨b, o + k, none⟩ = some v) (hv' : w.cell? ⟨b', o' + k, none⟩ = some v')
    (HC : Hid (Calls Tryd.prog 42 #[v] w fun e w' => e = .returned (.tuple #[.iface 32 (.int .u64 (n : Int)), .nilIface]) ∧ w' = w))
    (HC' : Hid (Calls Tryd.prog 42 #[v'] w fun e w' => (∃ t, e = .returned (.tuple #[t, .nilIface]) ∧ avIs w.heap.size w cy t) ∧ w' = w))
    (HRET : Hid (∀ c rq : Int, cmpA (.u64 n) cy = c → c ≠ 0 → c * r = rq → ∀ a' : Act, a'.tmps.getD 6 undef = .int .i64 rq → a'.tmps.getD 7 undef = .nilIface → a'.defers = [] → a'.tmps.size = 477 → Q0 .ret a' w))
    (HNEXT : Hid (cmpA (.u64 n) cy = 0 → ∀ a', Sl (.slice (some ⟨b, o, none⟩) m1 d1) (.slice (some ⟨b', o', none⟩) m2 d2) (.int .i64 r) (.int .i64 n1) (.int .i64 n2) (.int .i64 0) (.slice (some ⟨b, o, none⟩) m1 d1) (.int .i64 m1) (.int .i64 ((k + 1 : Nat) : Int)) a' → K a' w)) :
    Code.wp Tryd.prog body30 (Exit.then K Q0) (frm (.slice (some ⟨b, o, none⟩) m1 d1) (.slice (some ⟨b', o', none⟩) m2 d2) (.int .i64 r) (.int .i64 n1) (.int .i64 n2) (.int .i64 0) (.slice (some ⟨b, o, none⟩) m1 d1) (.int .i64 m1) (.int .i64 k) u) w := by
  conv => arg 2; whnf
  unfold frm
  have hr := wrap_neg HR.out
  (repeat (first | go_values | go_skip | go_guarded | go_step | go_upon))
  refine HC.out.mono ?_
  rintro e w1 ⟨rfl, rfl⟩
  dsimp only
  (repeat (first | go_values | go_skip | go_guarded | go_step | go_upon))
  refine HC'.out.mono ?_
  rintro e w1 ⟨⟨t, rfl, ht⟩, rfl⟩
  dsimp only
  have HT := Lib.hid ht
  clear ht
  cases hy
  case nil =>
    obtain rfl : t = .nilIface := HT.out
    (repeat (first | go_values | go_skip | go_guarded | go_step | go_upon))
    exact HRET.out 1 r rfl (by decide) (by omega) _ rfl rfl rfl rfl
  case bool p2 =>
    obtain rfl : t = .iface 4 (.bool p2) := HT.out
    (repeat (first | go_values | go_skip | go_guarded | go_step | go_upon))
    exact HRET.out 1 r rfl (by decide) (by omega) _ rfl rfl rfl rfl
  case i64 y y1 y2 =>
    obtain rfl : t = .iface 2 (.int .i64 y) := HT.out
    (repeat (first | go_values | go_skip | go_guarded | go_step | go_upon))
    refine (named (cuintint_any y n w1 y2 hn2)).mono ?_
    rintro e w2 ⟨c, hc, rfl, rfl⟩
    dsimp only
    have h3 := Lib.hid (cmpI_range (n : Int) y)
    rw [hc] at h3
    have HCC := Lib.hid hc
    clear hc
    by_cases h0 : c = 0
    · subst h0
      clear h3
      (repeat (first | go_values | go_skip | go_guarded | go_step | go_upon))
      exact HNEXT.out HCC.out _ ⟨rfl, rfl, rfl, rfl, rfl, rfl, rfl, rfl, rfl, rfl, rfl, by first | rfl | (exact congrArg (Value.int .i64) (by omega))⟩
    · have g0 : (c != 0) = true := by simpa using h0
      have hw := wrap_order HR.out h3.out
      (repeat (first | go_values | go_skip | go_guarded | go_step | go_upon))
      exact HRET.out c (c * r) HCC.out h0 rfl _ rfl rfl rfl rfl
  case u64 y y1 =>
    obtain rfl : t = .iface 32 (.int .u64 (y : Int)) := HT.out
    (repeat (first | go_values | go_skip | go_guarded | go_step | go_upon))
    refine (named (cuint_any (n : Int) (y : Int) w1)).mono ?_
    rintro e w2 ⟨c, hc, rfl, rfl⟩
    dsimp only
    have h3 := Lib.hid (cmpI_range (n : Int) (y : Int))
    rw [hc] at h3
    have HCC := Lib.hid hc
    clear hc
    by_cases h0 : c = 0
    · subst h0
      clear h3
      (repeat (first | go_values | go_skip | go_guarded | go_step | go_upon))
      exact HNEXT.out HCC.out _ ⟨rfl, rfl, rfl, rfl, rfl, rfl, rfl, rfl, rfl, rfl, rfl, by first | rfl | (exact congrArg (Value.int .i64) (by omega))⟩
    · have g0 : (c != 0) = true := by simpa using h0
      have hw := wrap_order HR.out h3.out
      (repeat (first | go_values | go_skip | go_guarded | go_step | go_upon))
      exact HRET.out c (c * r) HCC.out h0 rfl _ rfl rfl rfl rfl
  case f64 y =>
    obtain rfl : t = .iface 76 (.float .f64 y) := HT.out
    (repeat (first | go_values | go_skip | go_guarded | go_step | go_upon))
    refine (named (cflt_any (floatOfInt .f64 (n : Int)) y w1)).mono ?_
    rintro e w2 ⟨c, hc, rfl, rfl⟩
    dsimp only
    have h3 := Lib.hid (ordF_range (floatOfInt .f64 (n : Int)) y)
    rw [hc] at h3
    have HCC := Lib.hid hc
    clear hc
    by_cases h0 : c = 0
    · subst h0
      clear h3
      (repeat (first | go_values | go_skip | go_guarded | go_step | go_upon))
      exact HNEXT.out HCC.out _ ⟨rfl, rfl, rfl, rfl, rfl, rfl, rfl, rfl, rfl, rfl, rfl, by first | rfl | (exact congrArg (Value.int .i64) (by omega))⟩
    · have g0 : (c != 0) = true := by simpa using h0
      have hw := wrap_order HR.out h3.out
      (repeat (first | go_values | go_skip | go_guarded | go_step | go_upon))
      exact HRET.out c (c * r) HCC.out h0 rfl _ rfl rfl rfl rfl
  case c128 y z =>
    obtain rfl : t = .iface 80 (.complex .f64 y z) := HT.out
    (repeat (first | go_values | go_skip | go_guarded | go_step | go_upon))
    refine (named (ccpx_any (floatOfInt .f64 (n : Int)) 0 y z w1)).mono ?_
    rintro e w2 ⟨c, hc, rfl, rfl⟩
    dsimp only
    have h3 := Lib.hid (ordC_range (floatOfInt .f64 (n : Int)) 0 y z)
    rw [hc] at h3
    have HCC := Lib.hid hc
    clear hc
    by_cases h0 : c = 0
    · subst h0
      clear h3
      (repeat (first | go_values | go_skip | go_guarded | go_step | go_upon))
      exact HNEXT.out HCC.out _ ⟨rfl, rfl, rfl, rfl, rfl, rfl, rfl, rfl, rfl, rfl, rfl, by first | rfl | (exact congrArg (Value.int .i64) (by omega))⟩
    · have g0 : (c != 0) = true := by simpa using h0
      have hw := wrap_order HR.out h3.out
      (repeat (first | go_values | go_skip | go_guarded | go_step | go_upon))
      exact HRET.out c (c * r) HCC.out h0 rfl _ rfl rfl rfl rfl
  case byt ys =>
    obtain ⟨ay, ny, cy, rfl, -, -, h5, -⟩ := HT.out
    have HY := Lib.hid h5
    clear h5
    (repeat (first | go_values | go_skip | go_guarded | go_step | go_upon))
    exact HRET.out (-1) (-r) rfl (by decide) (by omega) _ rfl rfl rfl rfl
  case str ys =>
    obtain rfl : t = .iface 9 (.string ⟨ys.toArray⟩) := HT.out
    (repeat (first | go_values | go_skip | go_guarded | go_step | go_upon))
    exact HRET.out (-1) (-r) rfl (by decide) (by omega) _ rfl rfl rfl rfl

end Go.Proofs.YtaoonpncnahhgaaDoor

namespace Go.Proofs.YtaoonpncnahhgaaDoor
open Go.RowKit

set_option maxRecDepth 100000 in
set_option maxHeartbeats 8000000 in
theorem round_f64 (K : Act → World → Prop) (Q0 : Exit → Act → World → Prop) (w : World) (b o b' o' m1 d1 m2 d2 k n1 n2 : Nat) (r : Int) (v v' : Value) (n : Nat) (cy : AV) (u : Nat → Value)  (hy : IsCt cy)
    (hk : k < m1) (hk2 : k < m2) (_hm : m2 ≤ 2147483647) (hm1 : m1 ≤ 2147483647) (HR : Hid (r = 1 ∨ r = -1))
    (hv : w.cell? ⟨b, o + k, none⟩ = some v) (hv' : w.cell? ⟨b', o' + k, none⟩ = some v')
    (HC : Hid (Calls Tryd.prog 42 #[v] w fun e w' => e = .returned (.tuple #[.iface 76 (.float .f64 n), .nilIface]) ∧ w' = w))
    (HC' : Hid (Calls Tryd.prog 42 #[v'] w fun e w' => (∃ t, e = .returned (.tuple #[t, .nilIface]) ∧ avIs w.heap.size w cy t) ∧ w' = w))
    (HRET : Hid (∀ c rq : Int, cmpA (.f64 n) cy = c → c ≠ 0 → c * r = rq → ∀ a' : Act, a'.tmps.getD 6 undef = .int .i64 rq → a'.tmps.getD 7 undef = .nilIface → a'.defers = [] → a'.tmps.size = 477 → Q0 .ret a' w))
    (HNEXT : Hid (cmpA (.f64 n) cy = 0 → ∀ a', Sl (.slice (some ⟨b, o, none⟩) m1 d1) (.slice (some ⟨b', o', none⟩) m2 d2) (.int .i64 r) (.int .i64 n1) (.int .i64 n2) (.int .i64 0) (.slice (some ⟨b, o, none⟩) m1 d1) (.int .i64 m1) (.int .i64 ((k + 1 : Nat) : Int)) a' → K a' w)) :
    Code.wp Tryd.prog body30 (Exit.then K Q0) (frm (.slice (some ⟨b, o, none⟩) m1 d1) (.slice (some ⟨b', o', none⟩) m2 d2) (.int .i64 r) (.int .i64 n1) (.int .i64 n2) (.int .i64 0) (.slice (some ⟨b, o, none⟩) m1 d1) (.int .i64 m1) (.int .i64 k) u) w := by
  conv => arg 2; whnf
  unfold frm
  have hr := wrap_neg HR.out
  (repeat (first | go_values | go_skip | go_guarded | go_step | go_upon))
  refine HC.out.mono ?_
  rintro e w1 ⟨rfl, rfl⟩
  dsimp only
  (repeat (first | go_values | go_skip | go_guarded | go_step | go_upon))
  refine HC'.out.mono ?_
  rintro e w1 ⟨⟨t, rfl, ht⟩, rfl⟩
  dsimp only
  have HT := Lib.hid ht
  clear ht
  cases hy
  case nil =>
    obtain rfl : t = .nilIface := HT.out
    (repeat (first | go_values | go_skip | go_guarded | go_step | go_upon))
    exact HRET.out 1 r rfl (by decide) (by omega) _ rfl rfl rfl rfl
  case bool p2 =>
    obtain rfl : t = .iface 4 (.bool p2) := HT.out
    (repeat (first | go_values | go_skip | go_guarded | go_step | go_upon))
    exact HRET.out 1 r rfl (by decide) (by omega) _ rfl rfl rfl rfl
  case i64 y y1 y2 =>
    obtain rfl : t = .iface 2 (.int .i64 y) := HT.out
    (repeat (first | go_values | go_skip | go_guarded | go_step | go_upon))
    refine (named (cflt_any n (floatOfInt .f64 y) w1)).mono ?_
    rintro e w2 ⟨c, hc, rfl, rfl⟩
    dsimp only
    have h3 := Lib.hid (ordF_range n (floatOfInt .f64 y))
    rw [hc] at h3
    have HCC := Lib.hid hc
    clear hc
    by_cases h0 : c = 0
    · subst h0
      clear h3
      (repeat (first | go_values | go_skip | go_guarded | go_step | go_upon))
      exact HNEXT.out HCC.out _ ⟨rfl, rfl, rfl, rfl, rfl, rfl, rfl, rfl, rfl, rfl, rfl, by first | rfl | (exact congrArg (Value.int .i64) (by omega))⟩
    · have g0 : (c != 0) = true := by simpa using h0
      have hw := wrap_order HR.out h3.out
      (repeat (first | go_values | go_skip | go_guarded | go_step | go_upon))
      exact HRET.out c (c * r) HCC.out h0 rfl _ rfl rfl rfl rfl
  case u64 y y1 =>
    obtain rfl : t = .iface 32 (.int .u64 (y : Int)) := HT.out
    (repeat (first | go_values | go_skip | go_guarded | go_step | go_upon))
    refine (named (cflt_any n (floatOfInt .f64 (y : Int)) w1)).mono ?_
    rintro e w2 ⟨c, hc, rfl, rfl⟩
    dsimp only
    have h3 := Lib.hid (ordF_range n (floatOfInt .f64 (y : Int)))
    rw [hc] at h3
    have HCC := Lib.hid hc
    clear hc
    by_cases h0 : c = 0
    · subst h0
      clear h3
      (repeat (first | go_values | go_skip | go_guarded | go_step | go_upon))
      exact HNEXT.out HCC.out _ ⟨rfl, rfl, rfl, rfl, rfl, rfl, rfl, rfl, rfl, rfl, rfl, by first | rfl | (exact congrArg (Value.int .i64) (by omega))⟩
    · have g0 : (c != 0) = true := by simpa using h0
      have hw := wrap_order HR.out h3.out
      (repeat (first | go_values | go_skip | go_guarded | go_step | go_upon))
      exact HRET.out c (c * r) HCC.out h0 rfl _ rfl rfl rfl rfl
  case f64 y =>
    obtain rfl : t = .iface 76 (.float .f64 y) := HT.out
    (repeat (first | go_values | go_skip | go_guarded | go_step | go_upon))
    refine (named (cflt_any n y w1)).mono ?_
    rintro e w2 ⟨c, hc, rfl, rfl⟩
    dsimp only
    have h3 := Lib.hid (ordF_range n y)
    rw [hc] at h3
    have HCC := Lib.hid hc
    clear hc
    by_cases h0 : c = 0
    · subst h0
      clear h3
      (repeat (first | go_values | go_skip | go_guarded | go_step | go_upon))
      exact HNEXT.out HCC.out _ ⟨rfl, rfl, rfl, rfl, rfl, rfl, rfl, rfl, rfl, rfl, rfl, by first | rfl | (exact congrArg (Value.int .i64) (by omega))⟩
    · have g0 : (c != 0) = true := by simpa using h0
      have hw := wrap_order HR.out h3.out
      (repeat (first | go_values | go_skip | go_guarded | go_step | go_upon))
      exact HRET.out c (c * r) HCC.out h0 rfl _ rfl rfl rfl rfl
  case c128 y z =>
    obtain rfl : t = .iface 80 (.complex .f64 y z) := HT.out
    (repeat (first | go_values | go_skip | go_guarded | go_step | go_upon))
    refine (named (ccpx_any n 0 y z w1)).mono ?_
    rintro e w2 ⟨c, hc, rfl, rfl⟩
    dsimp only
    have h3 := Lib.hid (ordC_range n 0 y z)
    rw [hc] at h3
    have HCC := Lib.hid hc
    clear hc
    by_cases h0 : c = 0
    · subst h0
      clear h3
      (repeat (first | go_values | go_skip | go_guarded | go_step | go_upon))
      exact HNEXT.out HCC.out _ ⟨rfl, rfl, rfl, rfl, rfl, rfl, rfl, rfl, rfl, rfl, rfl, by first | rfl | (exact congrArg (Value.int .i64) (by omega))⟩
    · have g0 : (c != 0) = true := by simpa using h0
      have hw := wrap_order HR.out h3.out
      (repeat (first | go_values | go_skip | go_guarded | go_step | go_upon))
      exact HRET.out c (c * r) HCC.out h0 rfl _ rfl rfl rfl rfl
  case byt ys =>
    obtain ⟨ay, ny, cy, rfl, -, -, h5, -⟩ := HT.out
    have HY := Lib.hid h5
    clear h5
    (repeat (first | go_values | go_skip | go_guarded | go_step | go_upon))
    exact HRET.out (-1) (-r) rfl (by decide) (by omega) _ rfl rfl rfl rfl
  case str ys =>
    obtain rfl : t = .iface 9 (.string ⟨ys.toArray⟩) := HT.out
    (repeat (first | go_values | go_skip | go_guarded | go_step | go_upon))
    exact HRET.out (-1) (-r) rfl (by decide) (by omega) _ rfl rfl rfl rfl

end Go.Proofs.YtaoonpncnahhgaaDoor

namespace Go.Proofs.YtaoonpncnahhgaaDoor
open Go.RowKit

set_option maxRecDepth 100000 in
set_option maxHeartbeats 8000000 in
theorem round_c128 (K : Act → World → Prop) (Q0 : Exit → Act → World → Prop) (w : World) (b o b' o' m1 d1 m2 d2 k n1 n2 : Nat) (r : Int) (v v' : Value) (p q : Nat) (cy : AV) (u : Nat → Value)  (hy : IsCt cy)
    (hk : k < m1) (hk2 : k < m2) (_hm : m2 ≤ 2147483647) (hm1 : m1 ≤ 2147483647) (HR : Hid (r = 1 ∨ r = -1))
    (hv : w.cell? ⟨b, o + k, none⟩ = some v) (hv' : w.cell? ⟨b', o' + k, none⟩ = some v')
    (HC : Hid (Calls Tryd.prog 42 #[v] w fun e w' => e = .returned (.tuple #[.iface 80 (.complex .f64 p q), .nilIface]) ∧ w' = w))
    (HC' : Hid (Calls Tryd.prog 42 #[v'] w fun e w' => (∃ t, e = .returned (.tuple #[t, .nilIface]) ∧ avIs w.heap.size w cy t) ∧ w' = w))
    (HRET : Hid (∀ c rq : Int, cmpA (.c128 p q) cy = c → c ≠ 0 → c * r = rq → ∀ a' : Act, a'.tmps.getD 6 undef = .int .i64 rq → a'.tmps.getD 7 undef = .nilIface → a'.defers = [] → a'.tmps.size = 477 → Q0 .ret a' w))
    (HNEXT : Hid (cmpA (.c128 p q) cy = 0 → ∀ a', Sl (.slice (some ⟨b, o, none⟩) m1 d1) (.slice (some ⟨b', o', none⟩) m2 d2) (.int .i64 r) (.int .i64 n1) (.int .i64 n2) (.int .i64 0) (.slice (some ⟨b, o, none⟩) m1 d1) (.int .i64 m1) (.int .i64 ((k + 1 : Nat) : Int)) a' → K a' w)) :
    Code.wp Tryd.prog body30 (Exit.then K Q0) (frm (.slice (some ⟨b, o, none⟩) m1 d1) (.slice (some ⟨b', o', none⟩) m2 d2) (.int .i64 r) (.int .i64 n1) (.int .i64 n2) (.int .i64 0) (.slice (some ⟨b, o, none⟩) m1 d1) (.int .i64 m1) (.int .i64 k) u) w := by
  conv => arg 2; whnf
  unfold frm
  have hr := wrap_neg HR.out
  (repeat (first | go_values | go_skip | go_guarded | go_step | go_upon))
  refine HC.out.mono ?_
  rintro e w1 ⟨rfl, rfl⟩
  dsimp only
  (repeat (first | go_values | go_skip | go_guarded | go_step | go_upon))
  refine HC'.out.mono ?_
  rintro e w1 ⟨⟨t, rfl, ht⟩, rfl⟩
  dsimp only
  have HT := Lib.hid ht
  clear ht
  cases hy
  case nil =>
    obtain rfl : t = .nilIface := HT.out
    (repeat (first | go_values | go_skip | go_guarded | go_step | go_upon))
    exact HRET.out 1 r rfl (by decide) (by omega) _ rfl rfl rfl rfl
  case bool p2 =>
    obtain rfl : t = .iface 4 (.bool p2) := HT.out
    (repeat (first | go_values | go_skip | go_guarded | go_step | go_upon))
    exact HRET.out 1 r rfl (by decide) (by omega) _ rfl rfl rfl rfl
  case i64 y y1 y2 =>
    obtain rfl : t = .iface 2 (.int .i64 y) := HT.out
    (repeat (first | go_values | go_skip | go_guarded | go_step | go_upon))
    refine (named (ccpx_any p q (floatOfInt .f64 y) 0 w1)).mono ?_
    rintro e w2 ⟨c, hc, rfl, rfl⟩
    dsimp only
    have h3 := Lib.hid (ordC_range p q (floatOfInt .f64 y) 0)
    rw [hc] at h3
    have HCC := Lib.hid hc
    clear hc
    by_cases h0 : c = 0
    · subst h0
      clear h3
      (repeat (first | go_values | go_skip | go_guarded | go_step | go_upon))
      exact HNEXT.out HCC.out _ ⟨rfl, rfl, rfl, rfl, rfl, rfl, rfl, rfl, rfl, rfl, rfl, by first | rfl | (exact congrArg (Value.int .i64) (by omega))⟩
    · have g0 : (c != 0) = true := by simpa using h0
      have hw := wrap_order HR.out h3.out
      (repeat (first | go_values | go_skip | go_guarded | go_step | go_upon))
      exact HRET.out c (c * r) HCC.out h0 rfl _ rfl rfl rfl rfl
  case u64 y y1 =>
    obtain rfl : t = .iface 32 (.int .u64 (y : Int)) := HT.out
    (repeat (first | go_values | go_skip | go_guarded | go_step | go_upon))
    refine (named (ccpx_any p q (floatOfInt .f64 (y : Int)) 0 w1)).mono ?_
    rintro e w2 ⟨c, hc, rfl, rfl⟩
    dsimp only
    have h3 := Lib.hid (ordC_range p q (floatOfInt .f64 (y : Int)) 0)
    rw [hc] at h3
    have HCC := Lib.hid hc
    clear hc
    by_cases h0 : c = 0
    · subst h0
      clear h3
      (repeat (first | go_values | go_skip | go_guarded | go_step | go_upon))
      exact HNEXT.out HCC.out _ ⟨rfl, rfl, rfl, rfl, rfl, rfl, rfl, rfl, rfl, rfl, rfl, by first | rfl | (exact congrArg (Value.int .i64) (by omega))⟩
    · have g0 : (c != 0) = true := by simpa using h0
      have hw := wrap_order HR.out h3.out
      (repeat (first | go_values | go_skip | go_guarded | go_step | go_upon))
      exact HRET.out c (c * r) HCC.out h0 rfl _ rfl rfl rfl rfl
  case f64 y =>
    obtain rfl : t = .iface 76 (.float .f64 y) := HT.out
    (repeat (first | go_values | go_skip | go_guarded | go_step | go_upon))
    refine (named (ccpx_any p q y 0 w1)).mono ?_
    rintro e w2 ⟨c, hc, rfl, rfl⟩
    dsimp only
    have h3 := Lib.hid (ordC_range p q y 0)
    rw [hc] at h3
    have HCC := Lib.hid hc
    clear hc
    by_cases h0 : c = 0
    · subst h0
      clear h3
      (repeat (first | go_values | go_skip | go_guarded | go_step | go_upon))
      exact HNEXT.out HCC.out _ ⟨rfl, rfl, rfl, rfl, rfl, rfl, rfl, rfl, rfl, rfl, rfl, by first | rfl | (exact congrArg (Value.int .i64) (by omega))⟩
    · have g0 : (c != 0) = true := by simpa using h0
      have hw := wrap_order HR.out h3.out
      (repeat (first | go_values | go_skip | go_guarded | go_step | go_upon))
      exact HRET.out c (c * r) HCC.out h0 rfl _ rfl rfl rfl rfl
  case c128 y z =>
    obtain rfl : t = .iface 80 (.complex .f64 y z) := HT.out
    (repeat (first | go_values | go_skip | go_guarded | go_step | go_upon))
    refine (named (ccpx_any p q y z w1)).mono ?_
    rintro e w2 ⟨c, hc, rfl, rfl⟩
    dsimp only
    have h3 := Lib.hid (ordC_range p q y z)
    rw [hc] at h3
    have HCC := Lib.hid hc
    clear hc
    by_cases h0 : c = 0
    · subst h0
      clear h3
      (repeat (first | go_values | go_skip | go_guarded | go_step | go_upon))
      exact HNEXT.out HCC.out _ ⟨rfl, rfl, rfl, rfl, rfl, rfl, rfl, rfl, rfl, rfl, rfl, by first | rfl | (exact congrArg (Value.int .i64) (by omega))⟩
    · have g0 : (c != 0) = true := by simpa using h0
      have hw := wrap_order HR.out h3.out
      (repeat (first | go_values | go_skip | go_guarded | go_step | go_upon))
      exact HRET.out c (c * r) HCC.out h0 rfl _ rfl rfl rfl rfl
  case byt ys =>
    obtain ⟨ay, ny, cy, rfl, -, -, h5, -⟩ := HT.out
    have HY := Lib.hid h5
    clear h5
    (repeat (first | go_values | go_skip | go_guarded | go_step | go_upon))
    exact HRET.out (-1) (-r) rfl (by decide) (by omega) _ rfl rfl rfl rfl
  case str ys =>
    obtain rfl : t = .iface 9 (.string ⟨ys.toArray⟩) := HT.out
    (repeat (first | go_values | go_skip | go_guarded | go_step | go_upon))
    exact HRET.out (-1) (-r) rfl (by decide) (by omega) _ rfl rfl rfl rfl

end Go.Proofs.YtaoonpncnahhgaaDoor
