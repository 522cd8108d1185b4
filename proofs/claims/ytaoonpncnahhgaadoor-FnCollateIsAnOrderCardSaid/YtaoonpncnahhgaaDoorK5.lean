/-
  Plain: the order of lists; it is an order.
-/
import Derived.Test.YtaoonpncnahhgaaDoorK4
namespace Go.Proofs.YtaoonpncnahhgaaDoor
open Ieee Flt Go.RowKit

/-- three comparisons of a chain -/
def T3 (a b c : Int) : Prop := a ≤ 0 → b ≤ 0 → c ≤ 0 ∧ (c = 0 → a = 0 ∧ b = 0)

theorem cmpI_T (a b c : Int) : T3 (cmpI a b) (cmpI b c) (cmpI a c) := by
  unfold T3 cmpI
  intro h1 h2
  split at h1 <;> split at h2 <;> (try split at h1) <;> (try split at h2) <;> split <;> (try split) <;> omega

theorem cmp2_swap (a b c d : Int) : cmp2 b a d c = - cmp2 a b c d := by
  unfold cmp2
  rw [cmpI_swap a b, cmpI_swap c d]
  split <;> split <;> omega
theorem cmp2_T (a b c p q r : Int) : T3 (cmp2 a b p q) (cmp2 b c q r) (cmp2 a c p r) := by
  have h1 := cmpI_T a b c
  have h2 := cmpI_T p q r
  have h3 := cmpI_T c b a
  rw [cmpI_swap b c, cmpI_swap a b, cmpI_swap a c] at h3
  unfold T3 cmp2 at *
  generalize cmpI a b = u at *
  generalize cmpI b c = v at *
  generalize cmpI a c = t at *
  generalize cmpI p q = u2 at *
  generalize cmpI q r = v2 at *
  generalize cmpI p r = t2 at *
  by_cases e1 : u = 0 <;> by_cases e2 : v = 0 <;> by_cases e3 : t = 0 <;> simp only [e1, e2, e3, ne_eq, not_true_eq_false, not_false_eq_true, if_true, if_false] <;> exact fun h4 h5 => ⟨by omega, fun h6 => ⟨by first | omega | exact False.elim h6, by first | omega | exact False.elim h6⟩⟩

theorem bytesCmp_swap : ∀ xs ys : List UInt8, bytesCmp ys xs = - bytesCmp xs ys
  | [], [] => rfl
  | [], _ :: _ => rfl
  | _ :: _, [] => rfl
  | x :: xs, y :: ys => by
    unfold bytesCmp
    have e : ∀ a b : UInt8, a < b ↔ a.toNat < b.toNat := fun _ _ => UInt8.lt_iff_toNat_lt
    rw [bytesCmp_swap xs ys]
    simp only [e]
    split <;> split <;> omega
theorem bytesCmp_T : ∀ xs ys zs : List UInt8, T3 (bytesCmp xs ys) (bytesCmp ys zs) (bytesCmp xs zs)
  | [], [], [] => by unfold T3 bytesCmp; omega
  | [], [], _ :: _ => by unfold T3 bytesCmp; omega
  | [], _ :: _, [] => by unfold T3 bytesCmp; omega
  | [], _ :: _, _ :: _ => by unfold T3; simp only [bytesCmp]; omega
  | _ :: _, [], [] => by unfold T3 bytesCmp; omega
  | _ :: _, [], _ :: _ => by unfold T3; simp only [bytesCmp]; omega
  | _ :: _, _ :: _, [] => by unfold T3; simp only [bytesCmp]; omega
  | x :: xs, y :: ys, z :: zs => by
    have e : ∀ a b : UInt8, a < b ↔ a.toNat < b.toNat := fun _ _ => UInt8.lt_iff_toNat_lt
    have ih := bytesCmp_T xs ys zs
    unfold T3 at *
    simp only [bytesCmp, e]
    generalize bytesCmp xs ys = u at *
    generalize bytesCmp ys zs = v at *
    generalize bytesCmp xs zs = t at *
    generalize x.toNat = a
    generalize y.toNat = b
    generalize z.toNat = c
    intro h1 h2
    split at h1 <;> split at h2 <;> (try split at h1) <;> (try split at h2) <;> split <;> (try split) <;> omega

/-- what cmpS is, class by class -/
theorem cmpS_cases {s t : Sc} (hs : Fit s) (ht : Fit t) (h : classOf s.kind = classOf t.kind) :
    (classOf s.kind = 0 ∧ cmpS s t = 0) ∨ (classOf s.kind = 1 ∧ cmpS s t = cmpI s.int t.int) ∨ (classOf s.kind = 2 ∧ cmpS s t = cmp2 (key1 s) (key1 t) (key2 s) (key2 t)) ∨ (2 < classOf s.kind ∧ cmpS s t = bytesCmp s.bytes t.bytes) := by
  have k0 := hs.ok.k0
  have k1 := hs.ok.k1
  have l0 := ht.ok.k0
  have l1 := ht.ok.k1
  rcases class_tri s.kind with c | c | c | c
  · refine .inl ⟨c, ?_⟩
    unfold cmpS; rw [← h, c]; rfl
  · refine .inr (.inl ⟨c, ?_⟩)
    have e1 : s.kind = 1 := by unfold classOf at c; split at c <;> (try split at c) <;> (try split at c) <;> (try split at c) <;> omega
    have e2 : t.kind = 1 := by rw [h] at c; unfold classOf at c; split at c <;> (try split at c) <;> (try split at c) <;> (try split at c) <;> omega
    rw [cmpS_bool (hs.ok.bo e1) (ht.ok.bo e2) e1 e2]
    rcases hs.ok.bo e1 with e | e <;> rcases ht.ok.bo e2 with f | f <;> rw [e, f] <;> decide
  · exact .inr (.inr (.inl ⟨c, cmpS_num hs.wf ht.wf c (h ▸ c) (hs.num c) (ht.num (h ▸ c))⟩))
  · exact .inr (.inr (.inr ⟨c, cmpS_bytes rfl h.symm c⟩))

theorem cmpS_swap {s t : Sc} (hs : Fit s) (ht : Fit t) : cmpS t s = - cmpS s t := by
  rcases Int.lt_trichotomy (classOf s.kind) (classOf t.kind) with h | h | h
  · rw [cmpS_lt h, cmpS_gt h]; rfl
  · rcases cmpS_cases hs ht h with ⟨c, e⟩ | ⟨c, e⟩ | ⟨c, e⟩ | ⟨c, e⟩ <;> rcases cmpS_cases ht hs h.symm with ⟨d, f⟩ | ⟨d, f⟩ | ⟨d, f⟩ | ⟨d, f⟩ <;> first
      | (exfalso; omega)
      | (rw [e, f]; first | rfl | exact cmpI_swap _ _ | exact cmp2_swap _ _ _ _ | exact bytesCmp_swap _ _)
  · rw [cmpS_lt h, cmpS_gt h]

theorem cmpS_T {s t r : Sc} (hs : Fit s) (ht : Fit t) (hr : Fit r) : T3 (cmpS s t) (cmpS t r) (cmpS s r) := by
  rcases Int.lt_trichotomy (classOf s.kind) (classOf t.kind) with h | h | h
  · rcases Int.lt_trichotomy (classOf t.kind) (classOf r.kind) with g | g | g
    · rw [cmpS_lt (show classOf s.kind < classOf r.kind by omega)]; unfold T3; omega
    · rw [cmpS_lt (show classOf s.kind < classOf r.kind by omega)]; unfold T3; omega
    · rw [cmpS_gt g]; unfold T3; omega
  · rcases Int.lt_trichotomy (classOf t.kind) (classOf r.kind) with g | g | g
    · rw [cmpS_lt (show classOf s.kind < classOf r.kind by omega), cmpS_lt g]; unfold T3; omega
    · rcases cmpS_cases hs ht h with ⟨c, e⟩ | ⟨c, e⟩ | ⟨c, e⟩ | ⟨c, e⟩ <;> rcases cmpS_cases ht hr g with ⟨d, f⟩ | ⟨d, f⟩ | ⟨d, f⟩ | ⟨d, f⟩ <;> first
        | (exfalso; omega)
        | (rcases cmpS_cases hs hr (h.trans g) with ⟨d2, f2⟩ | ⟨d2, f2⟩ | ⟨d2, f2⟩ | ⟨d2, f2⟩ <;> first
            | (exfalso; omega)
            | (rw [e, f, f2]; first | (unfold T3; omega) | exact cmpI_T _ _ _ | exact cmp2_T _ _ _ _ _ _ | exact bytesCmp_T _ _ _))
    · rw [cmpS_gt g]; unfold T3; omega
  · rw [cmpS_gt h]; unfold T3; omega

theorem colS_swap : ∀ xs ys : List Sc, (∀ s ∈ xs, Fit s) → (∀ s ∈ ys, Fit s) → colS ys xs = - colS xs ys
  | [], [], _, _ => rfl
  | [], _ :: _, _, _ => rfl
  | _ :: _, [], _, _ => rfl
  | x :: xs, y :: ys, hx, hy => by
    unfold colS
    rw [cmpS_swap (hx x (by simp)) (hy y (by simp)), colS_swap xs ys (fun s h => hx s (by simp [h])) (fun s h => hy s (by simp [h]))]
    split <;> split <;> omega

theorem colS_T : ∀ xs ys zs : List Sc, (∀ s ∈ xs, Fit s) → (∀ s ∈ ys, Fit s) → (∀ s ∈ zs, Fit s) → T3 (colS xs ys) (colS ys zs) (colS xs zs)
  | [], [], [], _, _, _ => by unfold T3 colS; omega
  | [], [], _ :: _, _, _, _ => by unfold T3 colS; omega
  | [], _ :: _, [], _, _, _ => by unfold T3 colS; omega
  | [], _ :: _, _ :: _, _, _, _ => by unfold T3; simp only [colS]; omega
  | _ :: _, [], [], _, _, _ => by unfold T3 colS; omega
  | _ :: _, [], _ :: _, _, _, _ => by unfold T3; simp only [colS]; omega
  | _ :: _, _ :: _, [], _, _, _ => by unfold T3; simp only [colS]; omega
  | x :: xs, y :: ys, z :: zs, hx, hy, hz => by
    have fx := hx x (by simp)
    have fy := hy y (by simp)
    have fz := hz z (by simp)
    have h1 := cmpS_T fx fy fz
    have h3 := cmpS_T fz fy fx
    rw [cmpS_swap fy fz, cmpS_swap fx fy, cmpS_swap fx fz] at h3
    have ih := colS_T xs ys zs (fun s h => hx s (by simp [h])) (fun s h => hy s (by simp [h])) (fun s h => hz s (by simp [h]))
    unfold T3 at *
    simp only [colS]
    generalize cmpS x y = u at *
    generalize cmpS y z = v at *
    generalize cmpS x z = t at *
    generalize colS xs ys = u2 at *
    generalize colS ys zs = v2 at *
    generalize colS xs zs = t2 at *
    by_cases e1 : u = 0 <;> by_cases e2 : v = 0 <;> by_cases e3 : t = 0 <;> simp only [e1, e2, e3, ne_eq, not_true_eq_false, not_false_eq_true, if_true, if_false] <;> exact fun h4 h5 => ⟨by omega, fun h6 => ⟨by first | omega | exact False.elim h6, by first | omega | exact False.elim h6⟩⟩

/-- no pair of scalars of two lists is unfit -/
def Plains (xs ys : List Sc) : Prop := ∀ s ∈ xs, ∀ t ∈ ys, Plain2 s t

theorem lexA_link : ∀ xs ys : List Sc, (∀ s ∈ xs, Fit s) → (∀ s ∈ ys, Fit s) → Plains xs ys → lexA (xs.map avS) (ys.map avS) = colS xs ys
  | [], [], _, _, _ => rfl
  | [], _ :: _, _, _, _ => rfl
  | _ :: _, [], _, _, _ => rfl
  | x :: xs, y :: ys, hx, hy, hp => by
    simp only [List.map_cons, lexA, colS]
    rw [cmp_link (hx x (by simp)) (hy y (by simp)) (hp x (by simp) y (by simp)), lexA_link xs ys (fun s h => hx s (by simp [h])) (fun s h => hy s (by simp [h])) (fun s h t h' => hp s (by simp [h]) t (by simp [h']))]
    by_cases h : cmpS x y = 0 <;> simp [h]

theorem Plains.swap {xs ys : List Sc} (h : Plains xs ys) : Plains ys xs := fun s hs t ht => (h t ht s hs).imp And.symm And.symm

/-- ████ the package's order of two lists is the reference's -/
theorem col_link {xs ys : List Sc} (hx : ∀ s ∈ xs, Fit s) (hy : ∀ s ∈ ys, Fit s) (hp : Plains xs ys) : colA (xs.map avS) (ys.map avS) = colS xs ys := by
  unfold colA
  rw [lexA_link xs ys hx hy hp, lexA_link ys xs hy hx hp.swap, colS_swap xs ys hx hy]
  split <;> omega

theorem plains_of {Ls : List (List Sc)} (h : mixedB Ls = false) {xs ys : List Sc} (hx : xs ∈ Ls) (hy : ys ∈ Ls) : Plains xs ys := by
  unfold mixedB at h
  rw [Bool.and_eq_false_iff] at h
  intro s hs t ht
  rcases h with h | h
  · rw [List.any_eq_false] at h
    have a := h xs hx
    have b := h ys hy
    simp only [Bool.not_eq_true, List.any_eq_false] at a b
    exact .inl ⟨by simpa using a s hs, by simpa using b t ht⟩
  · rw [List.any_eq_false] at h
    have a := h xs hx
    have b := h ys hy
    simp only [Bool.not_eq_true, List.any_eq_false] at a b
    exact .inr ⟨by simpa using a s hs, by simpa using b t ht⟩

theorem fit_of {L : List Sc} (hw : ∀ s ∈ L, s.wf) (h : okB L = true) : ∀ s ∈ L, Fit s := by
  unfold okB at h
  simp only [Bool.and_eq_true] at h
  intro s hs
  have h1 := List.all_eq_true.1 h.1 s hs
  have h2 : (!(classOf s.kind == 2) || (parts s).2.2) = true := List.all_eq_true.1 h.2.2 s hs
  refine ⟨hw s hs, okFacts (hw s hs) h1, fun c => ?_⟩
  rw [c] at h2
  simpa using h2

end Go.Proofs.YtaoonpncnahhgaaDoor
