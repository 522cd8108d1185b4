/-
  Collate's round: x of the class nil (printed by gen7.py).
-/
import Derived.Test.YtaoonpncnahhgaaDoorC7
namespace Go.Proofs.YtaoonpncnahhgaaDoor
open Go.RowKit

set_option maxRecDepth 100000 in
set_option maxHeartbeats 8000000 in
theorem round_nil (K : Act → World → Prop) (Q0 : Exit → Act → World → Prop) (w : World) (b o b' o' m1 d1 m2 d2 k n1 n2 : Nat) (r : Int) (v v' : Value)  (cy : AV) (u : Nat → Value)  (hy : IsCt cy)
    (hk : k < m1) (hk2 : k < m2) (_hm : m2 ≤ 2147483647) (hm1 : m1 ≤ 2147483647) (HR : Hid (r = 1 ∨ r = -1))
    (hv : w.cell? ⟨b, o + k, none⟩ = some v) (hv' : w.cell? ⟨b', o' + k, none⟩ = some v')
    (HC : Hid (Calls Tryd.prog 42 #[v] w fun e w' => e = .returned (.tuple #[.nilIface, .nilIface]) ∧ w' = w))
    (HC' : Hid (Calls Tryd.prog 42 #[v'] w fun e w' => (∃ t, e = .returned (.tuple #[t, .nilIface]) ∧ avIs w.heap.size w cy t) ∧ w' = w))
    (HRET : Hid (∀ c rq : Int, cmpA (.nil) cy = c → c ≠ 0 → c * r = rq → ∀ a' : Act, a'.tmps.getD 6 undef = .int .i64 rq → a'.tmps.getD 7 undef = .nilIface → a'.defers = [] → a'.tmps.size = 477 → Q0 .ret a' w))
    (HNEXT : Hid (cmpA (.nil) cy = 0 → ∀ a', Sl (.slice (some ⟨b, o, none⟩) m1 d1) (.slice (some ⟨b', o', none⟩) m2 d2) (.int .i64 r) (.int .i64 n1) (.int .i64 n2) (.int .i64 0) (.slice (some ⟨b, o, none⟩) m1 d1) (.int .i64 m1) (.int .i64 ((k + 1 : Nat) : Int)) a' → K a' w)) :
    Code.wp Tryd.prog body30 (Exit.then K Q0) (frm (.slice (some ⟨b, o, none⟩) m1 d1) (.slice (some ⟨b', o', none⟩) m2 d2) (.int .i64 r) (.int .i64 n1) (.int .i64 n2) (.int .i64 0) (.slice (some ⟨b, o, none⟩) m1 d1) (.int .i64 m1) (.int .i64 k) u) w := by
  conv => arg 2; whnf
  unfold frm
  have hr := wrap_neg HR.out
  (repeat (first | go_values | go_skip | go_guarded | go_step | go_upon))
  refine HC.out.mono ?_
  rintro e w1 ⟨rfl, rfl⟩
  dsimp only
  (repeat (first | go_values | go_skip | go_guarded | go_step | go_upon))
  refine HC'.out.mono ?_
  rintro e w1 ⟨⟨t, rfl, ht⟩, rfl⟩
  dsimp only
  have HT := Lib.hid ht
  clear ht
  cases hy
  case nil =>
    obtain rfl : t = .nilIface := HT.out
    (repeat (first | go_values | go_skip | go_guarded | go_step | go_upon))
    exact HNEXT.out rfl _ ⟨rfl, rfl, rfl, rfl, rfl, rfl, rfl, rfl, rfl, rfl, rfl, by first | rfl | (exact congrArg (Value.int .i64) (by omega))⟩
  case bool p2 =>
    obtain rfl : t = .iface 4 (.bool p2) := HT.out
    (repeat (first | go_values | go_skip | go_guarded | go_step | go_upon))
    exact HRET.out (-1) (-r) rfl (by decide) (by omega) _ rfl rfl rfl rfl
  case i64 y y1 y2 =>
    obtain rfl : t = .iface 2 (.int .i64 y) := HT.out
    (repeat (first | go_values | go_skip | go_guarded | go_step | go_upon))
    exact HRET.out (-1) (-r) rfl (by decide) (by omega) _ rfl rfl rfl rfl
  case u64 y y1 =>
    obtain rfl : t = .iface 32 (.int .u64 (y : Int)) := HT.out
    (repeat (first | go_values | go_skip | go_guarded | go_step | go_upon))
    exact HRET.out (-1) (-r) rfl (by decide) (by omega) _ rfl rfl rfl rfl
  case f64 y =>
    obtain rfl : t = .iface 76 (.float .f64 y) := HT.out
    (repeat (first | go_values | go_skip | go_guarded | go_step | go_upon))
    exact HRET.out (-1) (-r) rfl (by decide) (by omega) _ rfl rfl rfl rfl
  case c128 y z =>
    obtain rfl : t = .iface 80 (.complex .f64 y z) := HT.out
    (repeat (first | go_values | go_skip | go_guarded | go_step | go_upon))
    exact HRET.out (-1) (-r) rfl (by decide) (by omega) _ rfl rfl rfl rfl
  case byt ys =>
    obtain ⟨ay, ny, cy, rfl, -, -, h5, -⟩ := HT.out
    have HY := Lib.hid h5
    clear h5
    (repeat (first | go_values | go_skip | go_guarded | go_step | go_upon))
    exact HRET.out (-1) (-r) rfl (by decide) (by omega) _ rfl rfl rfl rfl
  case str ys =>
    obtain rfl : t = .iface 9 (.string ⟨ys.toArray⟩) := HT.out
    (repeat (first | go_values | go_skip | go_guarded | go_step | go_upon))
    exact HRET.out (-1) (-r) rfl (by decide) (by omega) _ rfl rfl rfl rfl

end Go.Proofs.YtaoonpncnahhgaaDoor

namespace Go.Proofs.YtaoonpncnahhgaaDoor
open Go.RowKit

set_option maxRecDepth 100000 in
set_option maxHeartbeats 8000000 in
theorem round_bool (K : Act → World → Prop) (Q0 : Exit → Act → World → Prop) (w : World) (b o b' o' m1 d1 m2 d2 k n1 n2 : Nat) (r : Int) (v v' : Value) (p : Bool) (cy : AV) (u : Nat → Value)  (hy : IsCt cy)
    (hk : k < m1) (hk2 : k < m2) (_hm : m2 ≤ 2147483647) (hm1 : m1 ≤ 2147483647) (HR : Hid (r = 1 ∨ r = -1))
    (hv : w.cell? ⟨b, o + k, none⟩ = some v) (hv' : w.cell? ⟨b', o' + k, none⟩ = some v')
    (HC : Hid (Calls Tryd.prog 42 #[v] w fun e w' => e = .returned (.tuple #[.iface 4 (.bool p), .nilIface]) ∧ w' = w))
    (HC' : Hid (Calls Tryd.prog 42 #[v'] w fun e w' => (∃ t, e = .returned (.tuple #[t, .nilIface]) ∧ avIs w.heap.size w cy t) ∧ w' = w))
    (HRET : Hid (∀ c rq : Int, cmpA (.bool p) cy = c → c ≠ 0 → c * r = rq → ∀ a' : Act, a'.tmps.getD 6 undef = .int .i64 rq → a'.tmps.getD 7 undef = .nilIface → a'.defers = [] → a'.tmps.size = 477 → Q0 .ret a' w))
    (HNEXT : Hid (cmpA (.bool p) cy = 0 → ∀ a', Sl (.slice (some ⟨b, o, none⟩) m1 d1) (.slice (some ⟨b', o', none⟩) m2 d2) (.int .i64 r) (.int .i64 n1) (.int .i64 n2) (.int .i64 0) (.slice (some ⟨b, o, none⟩) m1 d1) (.int .i64 m1) (.int .i64 ((k + 1 : Nat) : Int)) a' → K a' w)) :
    Code.wp Tryd.prog body30 (Exit.then K Q0) (frm (.slice (some ⟨b, o, none⟩) m1 d1) (.slice (some ⟨b', o', none⟩) m2 d2) (.int .i64 r) (.int .i64 n1) (.int .i64 n2) (.int .i64 0) (.slice (some ⟨b, o, none⟩) m1 d1) (.int .i64 m1) (.int .i64 k) u) w := by
  conv => arg 2; whnf
  unfold frm
  have hr := wrap_neg HR.out
  (repeat (first | go_values | go_skip | go_guarded | go_step | go_upon))
  refine HC.out.mono ?_
  rintro e w1 ⟨rfl, rfl⟩
  dsimp only
  (repeat (first | go_values | go_skip | go_guarded | go_step | go_upon))
  refine HC'.out.mono ?_
  rintro e w1 ⟨⟨t, rfl, ht⟩, rfl⟩
  dsimp only
  have HT := Lib.hid ht
  clear ht
  cases hy
  case nil =>
    obtain rfl : t = .nilIface := HT.out
    (repeat (first | go_values | go_skip | go_guarded | go_step | go_upon))
    exact HRET.out 1 r rfl (by decide) (by omega) _ rfl rfl rfl rfl
  case bool p2 =>
    obtain rfl : t = .iface 4 (.bool p2) := HT.out
    cases p <;> cases p2
    case false.false =>
      (repeat (first | go_values | go_skip | go_guarded | go_step | go_upon))
      exact HNEXT.out rfl _ ⟨rfl, rfl, rfl, rfl, rfl, rfl, rfl, rfl, rfl, rfl, rfl, by first | rfl | (exact congrArg (Value.int .i64) (by omega))⟩
    case true.true =>
      (repeat (first | go_values | go_skip | go_guarded | go_step | go_upon))
      exact HNEXT.out rfl _ ⟨rfl, rfl, rfl, rfl, rfl, rfl, rfl, rfl, rfl, rfl, rfl, by first | rfl | (exact congrArg (Value.int .i64) (by omega))⟩
    case false.true =>
      (repeat (first | go_values | go_skip | go_guarded | go_step | go_upon))
      exact HRET.out (-1) (-r) rfl (by decide) (by omega) _ rfl rfl rfl rfl
    case true.false =>
      (repeat (first | go_values | go_skip | go_guarded | go_step | go_upon))
      exact HRET.out 1 r rfl (by decide) (by omega) _ rfl rfl rfl rfl
  case i64 y y1 y2 =>
    obtain rfl : t = .iface 2 (.int .i64 y) := HT.out
    (repeat (first | go_values | go_skip | go_guarded | go_step | go_upon))
    exact HRET.out (-1) (-r) rfl (by decide) (by omega) _ rfl rfl rfl rfl
  case u64 y y1 =>
    obtain rfl : t = .iface 32 (.int .u64 (y : Int)) := HT.out
    (repeat (first | go_values | go_skip | go_guarded | go_step | go_upon))
    exact HRET.out (-1) (-r) rfl (by decide) (by omega) _ rfl rfl rfl rfl
  case f64 y =>
    obtain rfl : t = .iface 76 (.float .f64 y) := HT.out
    (repeat (first | go_values | go_skip | go_guarded | go_step | go_upon))
    exact HRET.out (-1) (-r) rfl (by decide) (by omega) _ rfl rfl rfl rfl
  case c128 y z =>
    obtain rfl : t = .iface 80 (.complex .f64 y z) := HT.out
    (repeat (first | go_values | go_skip | go_guarded | go_step | go_upon))
    exact HRET.out (-1) (-r) rfl (by decide) (by omega) _ rfl rfl rfl rfl
  case byt ys =>
    obtain ⟨ay, ny, cy, rfl, -, -, h5, -⟩ := HT.out
    have HY := Lib.hid h5
    clear h5
    (repeat (first | go_values | go_skip | go_guarded | go_step | go_upon))
    exact HRET.out (-1) (-r) rfl (by decide) (by omega) _ rfl rfl rfl rfl
  case str ys =>
    obtain rfl : t = .iface 9 (.string ⟨ys.toArray⟩) := HT.out
    (repeat (first | go_values | go_skip | go_guarded | go_step | go_upon))
    exact HRET.out (-1) (-r) rfl (by decide) (by omega) _ rfl rfl rfl rfl

end Go.Proofs.YtaoonpncnahhgaaDoor

namespace Go.Proofs.YtaoonpncnahhgaaDoor
open Go.RowKit

set_option maxRecDepth 100000 in
set_option maxHeartbeats 8000000 in
theorem round_byt (K : Act → World → Prop) (Q0 : Exit → Act → World → Prop) (w : World) (b o b' o' m1 d1 m2 d2 k n1 n2 : Nat) (r : Int) (v v' : Value) (ax : Option Addr) (nx cx : Nat) (xs : List UInt8) (cy : AV) (u : Nat → Value) (HX : Hid (rdB w.heap.size w ax nx xs)) (hy : IsCt cy)
    (hk : k < m1) (hk2 : k < m2) (_hm : m2 ≤ 2147483647) (hm1 : m1 ≤ 2147483647) (HR : Hid (r = 1 ∨ r = -1))
    (hv : w.cell? ⟨b, o + k, none⟩ = some v) (hv' : w.cell? ⟨b', o' + k, none⟩ = some v')
    (HC : Hid (Calls Tryd.prog 42 #[v] w fun e w' => e = .returned (.tuple #[.iface 27 (.slice ax nx cx), .nilIface]) ∧ w' = w))
    (HC' : Hid (Calls Tryd.prog 42 #[v'] w fun e w' => (∃ t, e = .returned (.tuple #[t, .nilIface]) ∧ avIs w.heap.size w cy t) ∧ w' = w))
    (HRET : Hid (∀ c rq : Int, cmpA (.byt xs) cy = c → c ≠ 0 → c * r = rq → ∀ a' : Act, a'.tmps.getD 6 undef = .int .i64 rq → a'.tmps.getD 7 undef = .nilIface → a'.defers = [] → a'.tmps.size = 477 → Q0 .ret a' w))
    (HNEXT : Hid (cmpA (.byt xs) cy = 0 → ∀ a', Sl (.slice (some ⟨b, o, none⟩) m1 d1) (.slice (some ⟨b', o', none⟩) m2 d2) (.int .i64 r) (.int .i64 n1) (.int .i64 n2) (.int .i64 0) (.slice (some ⟨b, o, none⟩) m1 d1) (.int .i64 m1) (.int .i64 ((k + 1 : Nat) : Int)) a' → K a' w)) :
    Code.wp Tryd.prog body30 (Exit.then K Q0) (frm (.slice (some ⟨b, o, none⟩) m1 d1) (.slice (some ⟨b', o', none⟩) m2 d2) (.int .i64 r) (.int .i64 n1) (.int .i64 n2) (.int .i64 0) (.slice (some ⟨b, o, none⟩) m1 d1) (.int .i64 m1) (.int .i64 k) u) w := by
  conv => arg 2; whnf
  unfold frm
  have hr := wrap_neg HR.out
  (repeat (first | go_values | go_skip | go_guarded | go_step | go_upon))
  refine HC.out.mono ?_
  rintro e w1 ⟨rfl, rfl⟩
  dsimp only
  (repeat (first | go_values | go_skip | go_guarded | go_step | go_upon))
  refine HC'.out.mono ?_
  rintro e w1 ⟨⟨t, rfl, ht⟩, rfl⟩
  dsimp only
  have HT := Lib.hid ht
  clear ht
  cases hy
  case nil =>
    obtain rfl : t = .nilIface := HT.out
    (repeat (first | go_values | go_skip | go_guarded | go_step | go_upon))
    exact HRET.out 1 r rfl (by decide) (by omega) _ rfl rfl rfl rfl
  case bool p2 =>
    obtain rfl : t = .iface 4 (.bool p2) := HT.out
    (repeat (first | go_values | go_skip | go_guarded | go_step | go_upon))
    exact HRET.out 1 r rfl (by decide) (by omega) _ rfl rfl rfl rfl
  case i64 y y1 y2 =>
    obtain rfl : t = .iface 2 (.int .i64 y) := HT.out
    (repeat (first | go_values | go_skip | go_guarded | go_step | go_upon))
    exact HRET.out 1 r rfl (by decide) (by omega) _ rfl rfl rfl rfl
  case u64 y y1 =>
    obtain rfl : t = .iface 32 (.int .u64 (y : Int)) := HT.out
    (repeat (first | go_values | go_skip | go_guarded | go_step | go_upon))
    exact HRET.out 1 r rfl (by decide) (by omega) _ rfl rfl rfl rfl
  case f64 y =>
    obtain rfl : t = .iface 76 (.float .f64 y) := HT.out
    (repeat (first | go_values | go_skip | go_guarded | go_step | go_upon))
    exact HRET.out 1 r rfl (by decide) (by omega) _ rfl rfl rfl rfl
  case c128 y z =>
    obtain rfl : t = .iface 80 (.complex .f64 y z) := HT.out
    (repeat (first | go_values | go_skip | go_guarded | go_step | go_upon))
    exact HRET.out 1 r rfl (by decide) (by omega) _ rfl rfl rfl rfl
  case byt ys =>
    obtain ⟨ay, ny, cy, rfl, -, -, h5, -⟩ := HT.out
    have HY := Lib.hid h5
    clear h5
    (repeat (first | go_values | go_skip | go_guarded | go_step | go_upon))
    refine (named (bcmp_any ax ay nx ny cx cy xs ys w1 HX.out HY.out)).mono ?_
    rintro e w2 ⟨c, hc, rfl, rfl⟩
    dsimp only
    have h3 := Lib.hid (bytesCmp_range xs ys)
    rw [hc] at h3
    have HCC := Lib.hid hc
    clear hc
    by_cases h0 : c = 0
    · subst h0
      clear h3
      (repeat (first | go_values | go_skip | go_guarded | go_step | go_upon))
      exact HNEXT.out HCC.out _ ⟨rfl, rfl, rfl, rfl, rfl, rfl, rfl, rfl, rfl, rfl, rfl, by first | rfl | (exact congrArg (Value.int .i64) (by omega))⟩
    · have g0 : (c != 0) = true := by simpa using h0
      have hw := wrap_order HR.out h3.out
      (repeat (first | go_values | go_skip | go_guarded | go_step | go_upon))
      exact HRET.out c (c * r) HCC.out h0 rfl _ rfl rfl rfl rfl
  case str ys =>
    obtain rfl : t = .iface 9 (.string ⟨ys.toArray⟩) := HT.out
    (repeat (first | go_values | go_skip | go_guarded | go_step | go_upon))
    exact HRET.out (-1) (-r) rfl (by decide) (by omega) _ rfl rfl rfl rfl

end Go.Proofs.YtaoonpncnahhgaaDoor

namespace Go.Proofs.YtaoonpncnahhgaaDoor
open Go.RowKit

set_option maxRecDepth 100000 in
set_option maxHeartbeats 8000000 in
theorem round_str (K : Act → World → Prop) (Q0 : Exit → Act → World → Prop) (w : World) (b o b' o' m1 d1 m2 d2 k n1 n2 : Nat) (r : Int) (v v' : Value) (xs : List UInt8) (cy : AV) (u : Nat → Value)  (hy : IsCt cy)
    (hk : k < m1) (hk2 : k < m2) (_hm : m2 ≤ 2147483647) (hm1 : m1 ≤ 2147483647) (HR : Hid (r = 1 ∨ r = -1))
    (hv : w.cell? ⟨b, o + k, none⟩ = some v) (hv' : w.cell? ⟨b', o' + k, none⟩ = some v')
    (HC : Hid (Calls Tryd.prog 42 #[v] w fun e w' => e = .returned (.tuple #[.iface 9 (.string ⟨xs.toArray⟩), .nilIface]) ∧ w' = w))
    (HC' : Hid (Calls Tryd.prog 42 #[v'] w fun e w' => (∃ t, e = .returned (.tuple #[t, .nilIface]) ∧ avIs w.heap.size w cy t) ∧ w' = w))
    (HRET : Hid (∀ c rq : Int, cmpA (.str xs) cy = c → c ≠ 0 → c * r = rq → ∀ a' : Act, a'.tmps.getD 6 undef = .int .i64 rq → a'.tmps.getD 7 undef = .nilIface → a'.defers = [] → a'.tmps.size = 477 → Q0 .ret a' w))
    (HNEXT : Hid (cmpA (.str xs) cy = 0 → ∀ a', Sl (.slice (some ⟨b, o, none⟩) m1 d1) (.slice (some ⟨b', o', none⟩) m2 d2) (.int .i64 r) (.int .i64 n1) (.int .i64 n2) (.int .i64 0) (.slice (some ⟨b, o, none⟩) m1 d1) (.int .i64 m1) (.int .i64 ((k + 1 : Nat) : Int)) a' → K a' w)) :
    Code.wp Tryd.prog body30 (Exit.then K Q0) (frm (.slice (some ⟨b, o, none⟩) m1 d1) (.slice (some ⟨b', o', none⟩) m2 d2) (.int .i64 r) (.int .i64 n1) (.int .i64 n2) (.int .i64 0) (.slice (some ⟨b, o, none⟩) m1 d1) (.int .i64 m1) (.int .i64 k) u) w := by
  conv => arg 2; whnf
  unfold frm
  have hr := wrap_neg HR.out
  (repeat (first | go_values | go_skip | go_guarded | go_step | go_upon))
  refine HC.out.mono ?_
  rintro e w1 ⟨rfl, rfl⟩
  dsimp only
  (repeat (first | go_values | go_skip | go_guarded | go_step | go_upon))
  refine HC'.out.mono ?_
  rintro e w1 ⟨⟨t, rfl, ht⟩, rfl⟩
  dsimp only
  have HT := Lib.hid ht
  clear ht
  cases hy
  case nil =>
    obtain rfl : t = .nilIface := HT.out
    (repeat (first | go_values | go_skip | go_guarded | go_step | go_upon))
    exact HRET.out 1 r rfl (by decide) (by omega) _ rfl rfl rfl rfl
  case bool p2 =>
    obtain rfl : t = .iface 4 (.bool p2) := HT.out
    (repeat (first | go_values | go_skip | go_guarded | go_step | go_upon))
    exact HRET.out 1 r rfl (by decide) (by omega) _ rfl rfl rfl rfl
  case i64 y y1 y2 =>
    obtain rfl : t = .iface 2 (.int .i64 y) := HT.out
    (repeat (first | go_values | go_skip | go_guarded | go_step | go_upon))
    exact HRET.out 1 r rfl (by decide) (by omega) _ rfl rfl rfl rfl
  case u64 y y1 =>
    obtain rfl : t = .iface 32 (.int .u64 (y : Int)) := HT.out
    (repeat (first | go_values | go_skip | go_guarded | go_step | go_upon))
    exact HRET.out 1 r rfl (by decide) (by omega) _ rfl rfl rfl rfl
  case f64 y =>
    obtain rfl : t = .iface 76 (.float .f64 y) := HT.out
    (repeat (first | go_values | go_skip | go_guarded | go_step | go_upon))
    exact HRET.out 1 r rfl (by decide) (by omega) _ rfl rfl rfl rfl
  case c128 y z =>
    obtain rfl : t = .iface 80 (.complex .f64 y z) := HT.out
    (repeat (first | go_values | go_skip | go_guarded | go_step | go_upon))
    exact HRET.out 1 r rfl (by decide) (by omega) _ rfl rfl rfl rfl
  case byt ys =>
    obtain ⟨ay, ny, cy, rfl, -, -, h5, -⟩ := HT.out
    have HY := Lib.hid h5
    clear h5
    (repeat (first | go_values | go_skip | go_guarded | go_step | go_upon))
    exact HRET.out 1 r rfl (by decide) (by omega) _ rfl rfl rfl rfl
  case str ys =>
    obtain rfl : t = .iface 9 (.string ⟨ys.toArray⟩) := HT.out
    have hL := bytesLess_cmp xs ys
    have h3 := bytesCmp_range xs ys
    obtain ⟨c, hc⟩ : ∃ c, bytesCmp xs ys = c := ⟨_, rfl⟩
    rw [hc] at hL h3
    have HCC := Lib.hid hc
    obtain ⟨g1, g2, g3⟩ := hL
    clear hc
    rcases h3 with rfl | rfl | rfl
    · replace g1 : Op.bytesLess xs ys = false := g1
      replace g3 : (xs == ys) = true := g3
      (repeat (first | go_values | go_skip | go_guarded | go_step | go_upon))
      exact HNEXT.out HCC.out _ ⟨rfl, rfl, rfl, rfl, rfl, rfl, rfl, rfl, rfl, rfl, rfl, by first | rfl | (exact congrArg (Value.int .i64) (by omega))⟩
    · replace g1 : Op.bytesLess xs ys = false := g1
      replace g2 : Op.bytesLess ys xs = true := g2
      replace g3 : (xs == ys) = false := g3
      (repeat (first | go_values | go_skip | go_guarded | go_step | go_upon))
      exact HRET.out 1 r HCC.out (by decide) (by omega) _ rfl rfl rfl rfl
    · replace g1 : Op.bytesLess xs ys = true := g1
      (repeat (first | go_values | go_skip | go_guarded | go_step | go_upon))
      exact HRET.out (-1) (-r) HCC.out (by decide) (by omega) _ rfl rfl rfl rfl

end Go.Proofs.YtaoonpncnahhgaaDoor
