/-
  Plain: the two orders are one; it is an order.
-/
import Derived.Test.YtaoonpncnahhgaaDoorK3
namespace Go.Proofs.YtaoonpncnahhgaaDoor
open Ieee Flt Go.RowKit

theorem cmpA_num {s t : Sc} (hs : Fit s) (ht : Fit t) (hp : Plain2 s t) (c1 : 2 ≤ s.kind) (c2 : s.kind < 16) (d1 : 2 ≤ t.kind) (d2 : t.kind < 16) :
    cmpA (ctOf (avS s)) (ctOf (avS t)) = cmp2 (key1 s) (key1 t) (key2 s) (key2 t) := by
  have S := shape hs.ok.k0 hs.ok.k1
  have T := shape ht.ok.k0 ht.ok.k1
  have sa := hs.wf.a1
  have sb := hs.wf.b1
  have ta := ht.wf.a1
  have tb := ht.wf.b1
  have si := fun h1 h2 => great_i (s := s) h1 c1 h2
  have su := fun h1 h2 h3 => great_u (s := s) h1 h2 h3
  generalize ctOf (avS s) = x at *
  generalize ctOf (avS t) = y at *
  cases S
  case nil h => omega
  case bool h => omega
  case byt h => omega
  case str h => omega
  case i64 h h' =>
    rw [key1_i h', key2_0 (s := s) (by omega)]
    cases T
    case nil h => omega
    case bool h => omega
    case byt h => omega
    case str h => omega
    case i64 g g' =>
      rw [key1_i g', key2_0 (s := t) (by omega), cmp2_self, cmpI_mul _ _ _ two_pos]; rfl
    case u64 g g' =>
      rw [key1_u g g', key2_0 (s := t) (by omega), cmp2_self, cmpI_mul _ _ _ two_pos]; rfl
    case f64 g g' =>
      have r := great_i (hp.l g d2) h h'
      obtain ⟨e1, e2, e3⟩ := near_fv s.int r.1 r.2
      rw [key1_f g, key2_0 (s := t) (by omega), cmp2_self, ← e1]
      exact ordF_fv e3 ta e2 (ht.fa g d2)
    case c128 g g' =>
      have r := great_i (hp.l (by omega) d2) h h'
      obtain ⟨e1, e2, e3⟩ := near_fv s.int r.1 r.2
      rw [key1_f (by omega), key2_c g, ← e1, ← fv_zero]
      exact ordC_fv e3 (by decide) ta tb e2 ok_zero (ht.fa (by omega) d2) (ht.fb g d2)
  case u64 h h' =>
    rw [key1_u h h', key2_0 (s := s) (by omega)]
    cases T
    case nil h => omega
    case bool h => omega
    case byt h => omega
    case str h => omega
    case i64 g g' =>
      rw [key1_i g', key2_0 (s := t) (by omega), cmp2_self, cmpI_mul _ _ _ two_pos]; rfl
    case u64 g g' =>
      rw [key1_u g g', key2_0 (s := t) (by omega), cmp2_self, cmpI_mul _ _ _ two_pos]; rfl
    case f64 g g' =>
      have r := great_u (hp.l g d2) h h'
      obtain ⟨e1, e2, e3⟩ := near_fv (s.uint : Int) r.1 r.2
      rw [key1_f g, key2_0 (s := t) (by omega), cmp2_self, ← e1]
      exact ordF_fv e3 ta e2 (ht.fa g d2)
    case c128 g g' =>
      have r := great_u (hp.l (by omega) d2) h h'
      obtain ⟨e1, e2, e3⟩ := near_fv (s.uint : Int) r.1 r.2
      rw [key1_f (by omega), key2_c g, ← e1, ← fv_zero]
      exact ordC_fv e3 (by decide) ta tb e2 ok_zero (ht.fa (by omega) d2) (ht.fb g d2)
  case f64 h h' =>
    rw [key1_f h, key2_0 (s := s) (by omega)]
    cases T
    case nil h => omega
    case bool h => omega
    case byt h => omega
    case str h => omega
    case i64 g g' =>
      have r := great_i (hp.r h c2) g g'
      obtain ⟨e1, e2, e3⟩ := near_fv t.int r.1 r.2
      rw [key1_i g', key2_0 (s := t) (by omega), cmp2_self, ← e1]
      exact ordF_fv sa e3 (hs.fa h c2) e2
    case u64 g g' =>
      have r := great_u (hp.r h c2) g g'
      obtain ⟨e1, e2, e3⟩ := near_fv (t.uint : Int) r.1 r.2
      rw [key1_u g g', key2_0 (s := t) (by omega), cmp2_self, ← e1]
      exact ordF_fv sa e3 (hs.fa h c2) e2
    case f64 g g' =>
      rw [key1_f g, key2_0 (s := t) (by omega), cmp2_self]
      exact ordF_fv sa ta (hs.fa h c2) (ht.fa g d2)
    case c128 g g' =>
      rw [key1_f (by omega), key2_c g, ← fv_zero]
      exact ordC_fv sa (by decide) ta tb (hs.fa h c2) ok_zero (ht.fa (by omega) d2) (ht.fb g d2)
  case c128 h h' =>
    rw [key1_f (s := s) (by omega), key2_c h]
    cases T
    case nil h => omega
    case bool h => omega
    case byt h => omega
    case str h => omega
    case i64 g g' =>
      have r := great_i (hp.r (by omega) c2) g g'
      obtain ⟨e1, e2, e3⟩ := near_fv t.int r.1 r.2
      rw [key1_i g', key2_0 (s := t) (by omega), ← e1, ← fv_zero]
      exact ordC_fv sa sb e3 (by decide) (hs.fa (by omega) c2) (hs.fb h c2) e2 ok_zero
    case u64 g g' =>
      have r := great_u (hp.r (by omega) c2) g g'
      obtain ⟨e1, e2, e3⟩ := near_fv (t.uint : Int) r.1 r.2
      rw [key1_u g g', key2_0 (s := t) (by omega), ← e1, ← fv_zero]
      exact ordC_fv sa sb e3 (by decide) (hs.fa (by omega) c2) (hs.fb h c2) e2 ok_zero
    case f64 g g' =>
      rw [key1_f g, key2_0 (s := t) (by omega), ← fv_zero]
      exact ordC_fv sa sb ta (by decide) (hs.fa (by omega) c2) (hs.fb h c2) (ht.fa g d2) ok_zero
    case c128 g g' =>
      rw [key1_f (by omega), key2_c g]
      exact ordC_fv sa sb ta tb (hs.fa (by omega) c2) (hs.fb h c2) (ht.fa (by omega) d2) (ht.fb g d2)

theorem cmpS_bool {s t : Sc} (hs : s.int = 0 ∨ s.int = 1) (ht : t.int = 0 ∨ t.int = 1) (h : s.kind = 1) (g : t.kind = 1) : cmpS s t = cmpB (s.int != 0) (t.int != 0) := by
  unfold cmpS
  rw [h, g, show classOf 1 = 1 from rfl]
  simp only [Int.lt_irrefl, if_false, if_true, show ((1 : Int) = 0) = False from by simp]
  rw [less_nat _ _ (by unfold u64; omega) (by unfold u64; omega)]
  rcases hs with e | e <;> rcases ht with f | f <;> rw [e, f] <;> decide

theorem cmpS_bytes {s t : Sc} {c : Int} (h : classOf s.kind = c) (g : classOf t.kind = c) (hc : 2 < c) : cmpS s t = bytesCmp s.bytes t.bytes := by
  unfold cmpS
  rw [h, g, if_neg (by omega), if_neg (by omega), if_neg (by omega), if_neg (by omega), if_pos hc]

/-- ████ the package's order of two values is the reference's -/
theorem cmp_link {s t : Sc} (hs : Fit s) (ht : Fit t) (hp : Plain2 s t) : cmpA (ctOf (avS s)) (ctOf (avS t)) = cmpS s t := by
  by_cases hn : (2 ≤ s.kind ∧ s.kind < 16) ∧ (2 ≤ t.kind ∧ t.kind < 16)
  · obtain ⟨⟨a, b⟩, c, d⟩ := hn
    rw [cmpA_num hs ht hp a b c d, cmpS_num hs.wf ht.wf (class2 a b) (class2 c d) (hs.num (class2 a b)) (ht.num (class2 c d))]
  · have S := shape hs.ok.k0 hs.ok.k1
    have T := shape ht.ok.k0 ht.ok.k1
    have bs := hs.ok.bo
    have bt := ht.ok.bo
    have lt : ∀ {a b : Int}, classOf s.kind = a → classOf t.kind = b → a < b → (-1 : Int) = cmpS s t := fun h1 h2 h3 => (cmpS_lt (by rw [h1, h2]; exact h3)).symm
    have gt : ∀ {a b : Int}, classOf s.kind = a → classOf t.kind = b → b < a → (1 : Int) = cmpS s t := fun h1 h2 h3 => (cmpS_gt (by rw [h1, h2]; exact h3)).symm
    generalize ctOf (avS s) = x at *
    generalize ctOf (avS t) = y at *
    cases S <;> cases T
    case nil.nil h g => show (0 : Int) = _; unfold cmpS; rw [h, g]; rfl
    case bool.bool h g => exact (cmpS_bool (bs h) (bt g) h g).symm
    case byt.byt h g => exact (cmpS_bytes (class3 h) (class3 g) (by decide)).symm
    case str.str h g => exact (cmpS_bytes (class4 h) (class4 g) (by decide)).symm
    all_goals first
      | (exfalso; apply hn; constructor <;> constructor <;> omega)
      | (rename_i h g; first
          | exact lt (class0 h) (class1 g) (by decide) | exact lt (class0 h) (class3 g) (by decide) | exact lt (class0 h) (class4 g) (by decide)
          | exact gt (class1 h) (class0 g) (by decide) | exact lt (class1 h) (class3 g) (by decide) | exact lt (class1 h) (class4 g) (by decide)
          | exact gt (class3 h) (class0 g) (by decide) | exact gt (class3 h) (class1 g) (by decide) | exact lt (class3 h) (class4 g) (by decide)
          | exact gt (class4 h) (class0 g) (by decide) | exact gt (class4 h) (class1 g) (by decide) | exact gt (class4 h) (class3 g) (by decide))
      | (rename_i h g g'; first
          | exact lt (class0 h) (class2 (by omega) (by omega)) (by decide) | exact lt (class1 h) (class2 (by omega) (by omega)) (by decide)
          | exact gt (class3 h) (class2 (by omega) (by omega)) (by decide) | exact gt (class4 h) (class2 (by omega) (by omega)) (by decide))
      | (rename_i h h' g; first
          | exact gt (class2 (by omega) (by omega)) (class0 g) (by decide) | exact gt (class2 (by omega) (by omega)) (class1 g) (by decide)
          | exact lt (class2 (by omega) (by omega)) (class3 g) (by decide) | exact lt (class2 (by omega) (by omega)) (class4 g) (by decide))

end Go.Proofs.YtaoonpncnahhgaaDoor
