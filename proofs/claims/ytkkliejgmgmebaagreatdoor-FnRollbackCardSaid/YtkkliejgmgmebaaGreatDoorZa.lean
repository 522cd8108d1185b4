/-
  Nested transactions of the reference, as a function; bytes of a changed state, one by one.
-/
import Derived.Test.YtkkliejgmgmebaaGreatDoorRl
import Derived.Test.YtkkliejgmgmebaaGreatDoorQc
namespace Go.Proofs.YtkkliejgmgmebaaGreatDoor
open Go.RowKit

/-- a change of a state: what it gets as it grows again isn't known -/
def chgN (F : Fl) (most : Nat) (kind off size : Int) (xs : List UInt8) : Fl :=
  (F.change kind off size xs).punch F.d.length (min (if kind = 0 then min (F.change kind off size xs).d.length off.toNat else (F.change kind off size xs).d.length) most - F.d.length)

def Ns.top (N : Ns) : Fl := N.Fs.getLastD ⟨[], [], []⟩

/-- a call -/
def nstep (N : Ns) (kind off size : Int) (xs : List UInt8) : Ns × Bool :=
  if kind = 5 then (⟨N.Fs ++ [N.top], N.opn, N.most⟩, true)
  else if kind = 1 ∨ kind = 4 then (N, true)
  else if N.Fs.length = 1 then (N, false)
  else if kind = 7 then (⟨N.Fs.take (N.Fs.length - 1), N.opn, N.most⟩, true)
  else if kind = 6 then
    if N.Fs.length = 2 then (⟨[N.top.kept], N.opn || (!anyW N.top && (((N.Fs.headD ⟨[], [], []⟩).d.length : Int) != (N.top.d.length : Int))), N.most⟩, true)
    else (⟨N.Fs.take (N.Fs.length - 2) ++ [N.top], N.opn, N.most⟩, true)
  else (⟨N.Fs.set (N.Fs.length - 1) (chgN N.top N.most kind off size xs), N.opn, max N.most (chgN N.top N.most kind off size xs).d.length⟩, true)

theorem top_of {N : Ns} {n : Nat} {F : Fl} (hl : N.Fs.length = n + 1) (h : N.Fs[n]? = some F) : N.top = F := by
  unfold Ns.top
  rw [List.getLastD_eq_getLast?, List.getLast?_eq_getElem?, hl, Nat.add_sub_cancel, h]
  rfl

section
variable {N : Ns} {n : Nat} {F : Fl} (off size : Int) (xs : List UInt8)

theorem nstep_read (kind : Int) (hk : kind = 1 ∨ kind = 4) : nstep N kind off size xs = (N, true) := by
  unfold nstep
  rw [if_neg (by omega), if_pos hk]
theorem nstep_not (kind : Int) (hk : kind = 0 ∨ kind = 2 ∨ kind = 6 ∨ kind = 7) (hl : N.Fs.length = 1) : nstep N kind off size xs = (N, false) := by
  unfold nstep
  rw [if_neg (by omega), if_neg (by omega), if_pos hl]
theorem nstep_begin (hl : N.Fs.length = n + 1) (h : N.Fs[n]? = some F) : nstep N 5 off size xs = (⟨N.Fs ++ [F], N.opn, N.most⟩, true) := by
  unfold nstep
  rw [if_pos rfl, top_of hl h]
theorem nstep_rb (hl : N.Fs.length = n + 2) : nstep N 7 off size xs = (⟨N.Fs.take (n + 1), N.opn, N.most⟩, true) := by
  unfold nstep
  rw [if_neg (by omega), if_neg (by omega), if_neg (by omega), if_pos rfl, hl]
  rfl
theorem nstep_end1 (F0 F1 : Fl) (hl : N.Fs = [F0, F1]) : nstep N 6 off size xs = (⟨[F1.kept], N.opn || (!anyW F1 && ((F0.d.length : Int) != (F1.d.length : Int))), N.most⟩, true) := by
  have h2 : N.Fs.length = 2 := by rw [hl]; rfl
  have ht : N.top = F1 := top_of h2 (by rw [hl]; rfl)
  unfold nstep
  rw [if_neg (by omega), if_neg (by omega), if_neg (by omega), if_neg (by omega), if_pos rfl, if_pos h2, ht, hl]
  rfl
theorem nstep_end2 (hl : N.Fs.length = n + 3) (h : N.Fs[n + 2]? = some F) : nstep N 6 off size xs = (⟨N.Fs.take (n + 1) ++ [F], N.opn, N.most⟩, true) := by
  unfold nstep
  rw [if_neg (by omega), if_neg (by omega), if_neg (by omega), if_neg (by omega), if_pos rfl, if_neg (by omega), top_of hl h, hl]
  rfl
theorem nstep_chg (kind : Int) (hk : kind = 0 ∨ kind = 2) (hl : N.Fs.length = n + 2) (h : N.Fs[n + 1]? = some F) : nstep N kind off size xs = (⟨N.Fs.set (n + 1) (chgN F N.most kind off size xs), N.opn, max N.most (chgN F N.most kind off size xs).d.length⟩, true) := by
  unfold nstep
  rw [if_neg (by omega), if_neg (by omega), if_neg (by omega), if_neg (by omega), if_neg (by omega), top_of hl h, hl]
  rfl
end

/-- Open is never taken back -/
theorem nstep_open (N : Ns) (kind off size : Int) (xs : List UInt8) (h : (nstep N kind off size xs).1.opn = false) : N.opn = false := by
  unfold nstep at h
  split at h
  · exact h
  split at h
  · exact h
  split at h
  · exact h
  split at h
  · exact h
  split at h
  · split at h
    · simp only [Bool.or_eq_false_iff] at h; exact h.1
    · exact h
  · exact h

theorem grow_get {α : Type} (l : List α) (n m : Nat) (x : α) (hm : m = n - l.length) (i : Nat) : (l.take n ++ List.replicate m x)[i]? = if i < n then (if i < l.length then l[i]? else some x) else none := by
  subst hm
  by_cases h1 : i < n
  · rw [if_pos h1]
    by_cases h2 : i < l.length
    · rw [if_pos h2, List.getElem?_append_left (by rw [List.length_take]; omega), List.getElem?_take_of_lt h1]
    · rw [if_neg h2, List.getElem?_append_right (by rw [List.length_take]; omega), List.length_take, List.getElem?_replicate, if_pos (by omega)]
  · rw [if_neg h1, List.getElem?_eq_none (by rw [List.length_append, List.length_take, List.length_replicate]; omega)]

/-- a File whose slices are of one length -/
def Fl.Even (F : Fl) : Prop := F.k.length = F.d.length ∧ F.r.length = F.d.length

section
variable {F : Fl} (h : F.Even) (n : Nat)

theorem Fl.size_d_len : (F.size n).d.length = n := by
  simp only [Fl.size, List.length_append, List.length_take, List.length_replicate]; omega
include h in
theorem Fl.size_even : (F.size n).Even := by
  have h1 := h.1
  have h2 := h.2
  simp only [Fl.Even, Fl.size, List.length_append, List.length_take, List.length_replicate]; omega
theorem Fl.size_d (i : Nat) : (F.size n).d[i]? = if i < n then (if i < F.d.length then F.d[i]? else some 0) else none := grow_get _ _ _ _ rfl i
include h in
theorem Fl.size_k (i : Nat) : (F.size n).k[i]? = if i < n then (if i < F.d.length then F.k[i]? else some true) else none := by rw [← h.1]; exact grow_get _ _ _ _ (by rw [h.1]) i
include h in
theorem Fl.size_r (i : Nat) : (F.size n).r[i]? = if i < n then (if i < F.d.length then F.r[i]? else some false) else none := by rw [← h.2]; exact grow_get _ _ _ _ (by rw [h.2]) i
end

section
variable {F : Fl} (h : F.Even) (off : Nat) (xs : List UInt8)

/-- as it is ahead of the bytes' being put -/
theorem Fl.write_base : F.write off xs = (F.size (max F.d.length (off + xs.length))).put off xs ∨ (off + xs.length ≤ F.d.length ∧ F.write off xs = F.put off xs) := by
  unfold Fl.write
  by_cases h : F.d.length < off + xs.length
  · rw [if_pos h, Nat.max_eq_right (Nat.le_of_lt h)]; exact .inl rfl
  · rw [if_neg h]; exact .inr ⟨by omega, rfl⟩

theorem Fl.size_self (h : F.Even) (n : Nat) (hn : n = F.d.length) : F.size n = F := by
  subst hn
  obtain ⟨h1, h2⟩ := h
  obtain ⟨d, k, r⟩ := F
  simp only at h1 h2
  simp only [Fl.size, Nat.sub_self, List.replicate_zero, List.append_nil, List.take_length]
  rw [← h1, List.take_length, h1, ← h2, List.take_length]

include h in
theorem Fl.write_eq : F.write off xs = (F.size (max F.d.length (off + xs.length))).put off xs := by
  rcases Fl.write_base (F := F) off xs with e | ⟨e1, e⟩
  · exact e
  · rw [e, Fl.size_self h _ (by omega)]

include h in
theorem Fl.write_d_len : (F.write off xs).d.length = max F.d.length (off + xs.length) := by
  rw [Fl.write_eq h]
  show (splice _ _ _).length = _
  rw [splice_length _ _ _ (by rw [Fl.size_d_len]; omega), Fl.size_d_len]
include h in
theorem Fl.write_even : (F.write off xs).Even := by
  have hs := Fl.size_even h (max F.d.length (off + xs.length))
  have hl := Fl.size_d_len (F := F) (max F.d.length (off + xs.length))
  have h0 := Fl.write_d_len h off xs
  refine ⟨?_, ?_⟩
  · rw [h0, Fl.write_eq h]
    show (splice _ _ _).length = _
    rw [splice_length _ _ _ (by rw [List.length_replicate, hs.1, hl]; omega), hs.1, hl]
  · rw [h0, Fl.write_eq h]
    show (splice _ _ _).length = _
    rw [splice_length _ _ _ (by rw [List.length_replicate, hs.2, hl]; omega), hs.2, hl]
include h in
theorem Fl.write_d (i : Nat) : (F.write off xs).d.getD i 0 = if off ≤ i ∧ i < off + xs.length then xs.getD (i - off) 0 else F.d.getD i 0 := by
  rw [Fl.write_eq h]
  show (splice _ _ _).getD i 0 = _
  rw [splice_getD' _ _ _ (by rw [Fl.size_d_len]; omega)]
  split
  · rfl
  · rw [List.getD_eq_getElem?_getD, Fl.size_d, List.getD_eq_getElem?_getD]
    split
    · split
      · rfl
      · rw [List.getElem?_eq_none (by omega)]; rfl
    · rw [List.getElem?_eq_none (by omega)]
theorem put_k (l : List Bool) (m : Nat) (hm : off + m ≤ l.length) (i : Nat) : (splice l off (List.replicate m true))[i]? = if off ≤ i ∧ i < off + m then some true else l[i]? := by
  rw [splice_get _ _ _ (by rw [List.length_replicate]; exact hm), List.length_replicate]
  by_cases h1 : i < off
  · rw [if_pos h1, if_neg (by omega)]
  · rw [if_neg h1]
    by_cases h2 : i < off + m
    · rw [if_pos h2, if_pos (by omega), List.getElem?_replicate, if_pos (by omega)]
    · rw [if_neg h2, if_neg (by omega)]
include h in
theorem Fl.write_k (i : Nat) : (F.write off xs).k[i]? = if off ≤ i ∧ i < off + xs.length then some true else if i < F.d.length then F.k[i]? else if i < off + xs.length then some true else none := by
  have hs := Fl.size_even h (max F.d.length (off + xs.length))
  rw [Fl.write_eq h]
  refine (put_k off _ xs.length (by rw [hs.1, Fl.size_d_len]; omega) i).trans ?_
  split
  · rfl
  · rw [Fl.size_k h]
    by_cases h1 : i < F.d.length
    · rw [if_pos (by omega), if_pos h1, if_pos h1]
    · rw [if_neg h1, if_neg h1]
      by_cases h2 : i < off + xs.length
      · rw [if_pos (by omega), if_pos h2]
      · rw [if_neg (by omega), if_neg h2]
include h in
theorem Fl.write_r (i : Nat) : (F.write off xs).r[i]? = if off ≤ i ∧ i < off + xs.length then some true else if i < F.d.length then F.r[i]? else if i < off + xs.length then some false else none := by
  have hs := Fl.size_even h (max F.d.length (off + xs.length))
  rw [Fl.write_eq h]
  refine (put_k off _ xs.length (by rw [hs.2, Fl.size_d_len]; omega) i).trans ?_
  split
  · rfl
  · rw [Fl.size_r h]
    by_cases h1 : i < F.d.length
    · rw [if_pos (by omega), if_pos h1, if_pos h1]
    · rw [if_neg h1, if_neg h1]
      by_cases h2 : i < off + xs.length
      · rw [if_pos (by omega), if_pos h2]
      · rw [if_neg (by omega), if_neg h2]
end

theorem Fl.punch_k (F : Fl) (o m : Nat) (hm : o + m ≤ F.k.length) (i : Nat) : (F.punch o m).k[i]? = if o ≤ i ∧ i < o + m then some false else F.k[i]? := by
  show (splice F.k o (List.replicate m false))[i]? = _
  rw [splice_get _ _ _ (by rw [List.length_replicate]; exact hm), List.length_replicate]
  by_cases h1 : i < o
  · rw [if_pos h1, if_neg (by omega)]
  · rw [if_neg h1]
    by_cases h2 : i < o + m
    · rw [if_pos h2, if_pos (by omega), List.getElem?_replicate, if_pos (by omega)]
    · rw [if_neg h2, if_neg (by omega)]
theorem Fl.punch_even (F : Fl) (o m : Nat) (h : F.Even) (hm : o + m ≤ F.d.length) : (F.punch o m).Even := by
  refine ⟨?_, h.2⟩
  show (splice F.k o (List.replicate m false)).length = _
  rw [splice_length _ _ _ (by rw [List.length_replicate, h.1]; exact hm)]
  exact h.1

end Go.Proofs.YtkkliejgmgmebaaGreatDoor

namespace Go.Proofs.YtkkliejgmgmebaaGreatDoor
open Go.RowKit

/-- state k of the reference and level k -/
structure Agree (S : St) (most k : Nat) (F : Fl) : Prop where
  ev : F.Even
  len : F.d.length = S.size k
  le : F.d.length ≤ most
  jj : ∀ i, i < F.d.length → F.k[i]? = some true → ∀ j, j ≤ k → (∀ l, j < l → l ≤ k → S.dirty l (i / 4096) = false) → S.raw j i = F.d.getD i 0
  wrote : ∀ i, F.r[i]? = some true → ∃ l, 0 < l ∧ l ≤ k ∧ S.dirty l (i / 4096) = true

theorem Agree.cong {S S' : St} {most most' k : Nat} {F : Fl} (h : Agree S most k F) (hm : most ≤ most') (hs : S'.size k = S.size k) (hr : ∀ j i, j ≤ k → S'.raw j i = S.raw j i) (hd : ∀ l p, 0 < l → l ≤ k → S'.dirty l p = S.dirty l p) : Agree S' most' k F :=
  ⟨h.ev, h.len.trans hs.symm, Nat.le_trans h.le hm, fun i hi hk j hj hn => (hr j i hj).trans (h.jj i hi hk j hj fun l h1 h2 => by rw [← hd l _ (by omega) h2]; exact hn l h1 h2),
    fun i hi => by
      obtain ⟨l, h1, h2, h3⟩ := h.wrote i hi
      exact ⟨l, h1, h2, (hd l _ h1 h2).trans h3⟩⟩

/-- the reference's states and the levels -/
structure Inv (N : Ns) (S : St) : Prop where
  len : N.Fs.length = S.t + 1
  ag : ∀ (k : Nat) (F : Fl), N.Fs[k]? = some F → Agree S N.most k F
  zero : ∀ j i, j ≤ S.t → N.most ≤ i → S.raw j i = 0

theorem Inv.top {N : Ns} {S : St} (h : Inv N S) : ∃ F, N.Fs[S.t]? = some F ∧ N.top = F ∧ Agree S N.most S.t F := by
  obtain ⟨F, hF⟩ : ∃ F, N.Fs[S.t]? = some F := ⟨_, List.getElem?_eq_getElem (by rw [h.len]; omega)⟩
  exact ⟨F, hF, top_of h.len hF, h.ag _ _ hF⟩

theorem Inv.loads {N : Ns} {S S' : St} {k : Nat} (h : Inv N S) (hL : Loads k S S') : Inv N S' :=
  ⟨by rw [hL.t]; exact h.len, fun k F hF => (h.ag k F hF).cong (Nat.le_refl _) (hL.size k) (fun j i _ => hL.raw j i) (fun l p _ _ => hL.dirty l p), fun j i hj hi => by rw [hL.raw]; exact h.zero j i (by rw [← hL.t]; exact hj) hi⟩

theorem Upd.size {K : Nat} {S S' : St} (h : Upd K S S') {j : Nat} (hj : j ≠ K) : S'.size j = S.size j := by
  cases j with
  | zero => show S'.fb.length = S.fb.length; rw [h.fb]
  | succ j => exact h.sz (j + 1) hj

theorem Agree.upd {S S' : St} {K most most' k : Nat} {F : Fl} (h : Agree S most k F) (hm : most ≤ most') (hu : Upd K S S') (hk : k < K) : Agree S' most' k F :=
  h.cong hm (hu.size (by omega)) (fun j i hj => hu.raw j i (by omega)) (fun l p _ hl => hu.dirty l p (by omega))

theorem Inv.push {N : Ns} {S : St} (h : Inv N S) (b m : Nat) {F : Fl} (hF : N.Fs[S.t]? = some F) : Inv ⟨N.Fs ++ [F], N.opn, N.most⟩ (S.push b m) := by
  have hlo := St.push_lo S b m
  have hdl : ∀ l p, l ≤ S.t → (S.push b m).dirty l p = S.dirty l p := fun l p hl => by
    unfold St.dirty
    rw [show (S.push b m).L l = S.L l from if_neg (by omega)]
  have hL : (S.push b m).L (S.t + 1) = ⟨b, m, S.size S.t, fun _ => none⟩ := if_pos rfl
  have hdt : ∀ p, (S.push b m).dirty (S.t + 1) p = false := fun p => by
    unfold St.dirty
    rw [hL]
  have hrt : ∀ i, (S.push b m).raw (S.t + 1) i = if i < S.size S.t then S.raw S.t i else 0 := fun i => by
    rw [show (S.push b m).raw (S.t + 1) i = (match ((S.push b m).L (S.t + 1)).f (i / 4096) with | some x => x.bs.getD (i % 4096) 0 | none => if i < (S.push b m).size S.t then (S.push b m).raw S.t i else 0) from rfl, hL]
    dsimp only
    rw [(hlo S.t (Nat.le_refl _)).1 i, (hlo S.t (Nat.le_refl _)).2.1]
  refine ⟨by show (N.Fs ++ [F]).length = S.t + 1 + 1; simp [h.len], fun k G hG => ?_, fun j i hj hi => ?_⟩
  · have hk : k < S.t + 2 := by
      have h1 := (List.getElem?_eq_some_iff.1 hG).1
      have h2 : (N.Fs ++ [F]).length = S.t + 2 := by simp [h.len]
      rwa [h2] at h1
    by_cases e : k < S.t + 1
    · have hG2 : N.Fs[k]? = some G := by rw [← hG]; exact (List.getElem?_append_left (by rw [h.len]; exact e)).symm
      exact (h.ag k G hG2).cong (Nat.le_refl _) (hlo k (by omega)).2.1 (fun j i hj => (hlo j (by omega)).1 i) (fun l p _ hl => hdl l p (by omega))
    · obtain rfl : k = S.t + 1 := by omega
      have hG2 : G = F := by
        have h1 : (N.Fs ++ [F])[S.t + 1]? = some G := hG
        rw [← h.len, List.getElem?_append_right (Nat.le_refl _), Nat.sub_self] at h1
        simp only [List.getElem?_cons_zero, Option.some.injEq] at h1
        exact h1.symm
      subst hG2
      have hA := h.ag _ _ hF
      refine ⟨hA.ev, ?_, hA.le, fun i hi hk j hj hn => ?_, fun i hi => ?_⟩
      · rw [hA.len]
        show _ = ((S.push b m).L (S.t + 1)).size
        rw [hL]
      · by_cases e2 : j = S.t + 1
        · subst e2
          rw [hrt, if_pos (by rw [← hA.len]; exact hi)]
          exact hA.jj i hi hk S.t (Nat.le_refl _) fun l h1 h2 => by omega
        · rw [(hlo j (by omega)).1]
          exact hA.jj i hi hk j (by omega) fun l h1 h2 => by rw [← hdl l _ h2]; exact hn l h1 (by omega)
      · obtain ⟨l, h1, h2, h3⟩ := hA.wrote i hi
        exact ⟨l, h1, by omega, (hdl l _ h2).trans h3⟩
  · have hj' : j ≤ S.t + 1 := hj
    by_cases e : j = S.t + 1
    · subst e
      rw [hrt]
      split
      · exact h.zero _ _ (Nat.le_refl _) hi
      · rfl
    · rw [(hlo j (by omega)).1]
      exact h.zero _ _ (by omega) hi

theorem Inv.pop {N : Ns} {S : St} (h : Inv N S) {n : Nat} (ht : S.t = n + 1) : Inv ⟨N.Fs.take (n + 1), N.opn, N.most⟩ (S.pop n) := by
  refine ⟨by show (N.Fs.take (n + 1)).length = n + 1; rw [List.length_take, h.len]; omega, fun k G hG => ?_, fun j i hj hi => ?_⟩
  · have hk : k < n + 1 := by
      have h1 := (List.getElem?_eq_some_iff.1 hG).1
      have h2 : (N.Fs.take (n + 1)).length = n + 1 := by rw [List.length_take, h.len]; omega
      rwa [h2] at h1
    have hG2 : N.Fs[k]? = some G := by rw [← hG]; exact (List.getElem?_take_of_lt hk).symm
    exact (h.ag k G hG2).cong (Nat.le_refl _) (St.pop_size S n k) (fun j i _ => St.pop_raw S n j i) (fun l p _ _ => St.pop_dirty S n l p)
  · rw [St.pop_raw]
    exact h.zero j i (by have : j ≤ n := hj; omega) hi

/-- the last state is changed, and level K with it -/
theorem Inv.change {N : Ns} {S S' : St} (h : Inv N S) {n : Nat} (ht : S.t = n + 1) (hu : Upd (n + 1) S S') {G : Fl} (hG : Agree S' (max N.most G.d.length) (n + 1) G) (hz : ∀ i, max N.most G.d.length ≤ i → S'.raw (n + 1) i = 0) : Inv ⟨N.Fs.set (n + 1) G, N.opn, max N.most G.d.length⟩ S' := by
  refine ⟨by rw [hu.t, ← h.len]; exact List.length_set, fun k F hF => ?_, fun j i hj hi => ?_⟩
  · have hk : k < n + 2 := by
      have h1 := (List.getElem?_eq_some_iff.1 hF).1
      rw [List.length_set, h.len, ht] at h1
      exact h1
    by_cases e : k = n + 1
    · subst e
      have h1 : (N.Fs.set (n + 1) G)[n + 1]? = some F := hF
      rw [List.getElem?_set_self (by rw [h.len, ht]; omega)] at h1
      cases h1
      exact hG
    · have h1 : (N.Fs.set (n + 1) G)[k]? = some F := hF
      rw [List.getElem?_set_ne (Ne.symm e)] at h1
      exact (h.ag k F h1).upd (Nat.le_max_left _ _) hu (by omega)
  · rw [hu.t, ht] at hj
    have hi' : max N.most G.d.length ≤ i := hi
    by_cases e : j = n + 1
    · subst e; exact hz i hi'
    · rw [hu.raw j i (by omega)]
      exact h.zero j i (by omega) (by omega)

theorem Inv.wr {N : Ns} {S S' : St} (h : Inv N S) {n : Nat} (ht : S.t = n + 1) {F : Fl} (hF : N.Fs[n + 1]? = some F) {off size : Int} {xs : List UInt8} (hw : Written S S' off.toNat xs) :
    Inv ⟨N.Fs.set (n + 1) (chgN F N.most 0 off size xs), N.opn, max N.most (chgN F N.most 0 off size xs).d.length⟩ S' := by
  have hA := h.ag _ _ hF
  have hu := hw.upd
  rw [ht] at hu
  obtain ⟨o, ho⟩ : ∃ o, off.toNat = o := ⟨_, rfl⟩
  have hc : F.change 0 off size xs = F.write o xs := by unfold Fl.change; rw [if_pos rfl, ho]
  have hwl := Fl.write_d_len hA.ev o xs
  have hwe := Fl.write_even hA.ev o xs
  have hwd := Fl.write_d hA.ev o xs
  have hwk := Fl.write_k hA.ev o xs
  have hwr := Fl.write_r hA.ev o xs
  have hsz := hw.size
  have hraw := hw.raw
  have hdi := hw.dirty
  rw [ht, ho] at hsz hraw hdi
  obtain ⟨m, hm⟩ : ∃ m, min (min (F.write o xs).d.length o) N.most - F.d.length = m := ⟨_, rfl⟩
  have hG : chgN F N.most 0 off size xs = (F.write o xs).punch F.d.length m := by unfold chgN; rw [if_pos rfl, hc, ho, hm]
  rw [hwl] at hm
  have hbd : F.d.length + m ≤ (F.write o xs).d.length := by rw [hwl]; omega
  rw [hG]
  have hGl : ((F.write o xs).punch F.d.length m).d.length = max F.d.length (o + xs.length) := hwl
  have hlen : F.d.length = (S.L (n + 1)).size := hA.len
  have hle := hA.le
  refine h.change ht hu ⟨Fl.punch_even _ _ _ hwe hbd, ?_, Nat.le_max_right _ _, fun i hi hk j hj hn => ?_, fun i hi => ?_⟩ fun i hi => ?_
  · rw [hGl]
    show _ = (S'.L (n + 1)).size
    rw [hsz, hlen]
  · rw [hGl] at hi
    rw [Fl.punch_k _ _ _ (by rw [hwe.1]; exact hbd)] at hk
    show _ = (F.write o xs).d.getD i 0
    rw [hwd]
    by_cases hin : o ≤ i ∧ i < o + xs.length
    · rw [if_pos hin]
      by_cases e : j = n + 1
      · subst e
        rw [hraw, if_pos hin]
      · exfalso
        have h1 := hn (n + 1) (by omega) (Nat.le_refl _)
        have h2 := (hdi (i / 4096)).2 (.inr ⟨i, hin.1, hin.2, rfl⟩)
        rw [h1] at h2; cases h2
    · rw [if_neg hin]
      have hrj : S'.raw j i = S.raw j i := by
        by_cases e : j = n + 1
        · subst e; rw [hraw, if_neg hin]
        · exact hu.raw j i (by omega)
      rw [hrj]
      by_cases hil : i < F.d.length
      · rw [if_neg (by omega), hwk, if_neg hin, if_pos hil] at hk
        refine hA.jj i hil hk j hj fun l h1 h2 => ?_
        have h3 := hn l h1 h2
        by_cases e : l = n + 1
        · subst e
          cases hd : S.dirty (n + 1) (i / 4096) with
          | false => rfl
          | true => rw [(hdi _).2 (.inl hd)] at h3; cases h3
        · rw [hu.dirty l _ e] at h3; exact h3
      · have him : N.most ≤ i := Nat.le_of_not_lt fun hlt => by
          rw [if_pos (by omega)] at hk
          cases hk
        rw [h.zero j i (by omega) him, List.getD_eq_getElem?_getD, List.getElem?_eq_none (by omega)]
        rfl
  · have hi' : (F.write o xs).r[i]? = some true := hi
    rw [hwr] at hi'
    by_cases hin : o ≤ i ∧ i < o + xs.length
    · exact ⟨n + 1, by omega, Nat.le_refl _, (hdi _).2 (.inr ⟨i, hin.1, hin.2, rfl⟩)⟩
    · rw [if_neg hin] at hi'
      split at hi'
      · obtain ⟨l, h1, h2, h3⟩ := hA.wrote i hi'
        refine ⟨l, h1, h2, ?_⟩
        by_cases e : l = n + 1
        · subst e; exact (hdi _).2 (.inl h3)
        · rw [hu.dirty l _ e]; exact h3
      · split at hi' <;> cases hi'
  · have hi' : max N.most (max F.d.length (o + xs.length)) ≤ i := by rw [← hGl]; exact hi
    rw [hraw, if_neg (by omega)]
    exact h.zero _ _ (by omega) (by omega)

theorem raw_succ (S : St) (n i : Nat) : S.raw (n + 1) i = (match (S.L (n + 1)).f (i / 4096) with | some x => x.bs.getD (i % 4096) 0 | none => if i < S.size n then S.raw n i else 0) := rfl

theorem Inv.tr {N : Ns} {S S' : St} (h : Inv N S) {n : Nat} (ht : S.t = n + 1) {F : Fl} (hF : N.Fs[n + 1]? = some F) {off size : Int} {xs : List UInt8} (hw : Lost S.t S S' size.toNat) :
    Inv ⟨N.Fs.set (n + 1) (chgN F N.most 2 off size xs), N.opn, max N.most (chgN F N.most 2 off size xs).d.length⟩ S' := by
  have hA := h.ag _ _ hF
  have hu := hw.upd
  have hsz := hw.size
  have hso := hw.some'
  have hall := hw.all
  rw [ht] at hu hsz hso hall
  obtain ⟨o, ho⟩ : ∃ o, size.toNat = o := ⟨_, rfl⟩
  rw [ho] at hsz hall
  have hc : F.change 2 off size xs = F.size o := by unfold Fl.change; rw [if_neg (by decide), if_pos rfl, ho]
  have hwl := Fl.size_d_len (F := F) o
  have hwe := Fl.size_even hA.ev o
  have hwd := Fl.size_d (F := F) o
  have hwk := Fl.size_k hA.ev o
  have hwr := Fl.size_r hA.ev o
  obtain ⟨m, hm⟩ : ∃ m, min (F.size o).d.length N.most - F.d.length = m := ⟨_, rfl⟩
  have hG : chgN F N.most 2 off size xs = (F.size o).punch F.d.length m := by unfold chgN; rw [if_neg (by decide), hc, hm]
  rw [hwl] at hm
  rw [hG]
  have hGl : ((F.size o).punch F.d.length m).d.length = o := hwl
  have hlen : F.d.length = (S.L (n + 1)).size := hA.len
  have hle := hA.le
  have hsn : S'.size n = S.size n := hu.size (by omega)
  have hrin : ∀ i, i < o → S'.raw (n + 1) i = S.raw (n + 1) i := fun i hi => by
    rw [raw_succ, raw_succ, hall _ (by omega), hsn, hu.raw n i (by omega)]
  have hdin : ∀ i, i < o → ∀ l, S'.dirty l (i / 4096) = S.dirty l (i / 4096) := fun i hi l => by
    by_cases e : l = n + 1
    · subst e
      unfold St.dirty
      rw [hall _ (by omega)]
    · exact hu.dirty l _ e
  have hpe : ((F.size o).punch F.d.length m).Even ∧ ∀ i, i < o → ((F.size o).punch F.d.length m).k[i]? = if F.d.length ≤ i ∧ i < F.d.length + m then some false else (F.size o).k[i]? := by
    by_cases hlo : F.d.length ≤ o
    · exact ⟨Fl.punch_even _ _ _ hwe (by rw [hwl]; omega), fun i _ => Fl.punch_k _ _ _ (by rw [hwe.1, hwl]; omega) i⟩
    · have hm0 : m = 0 := by omega
      have e : (F.size o).punch F.d.length m = F.size o := by
        rw [hm0]
        show (⟨(F.size o).d, splice (F.size o).k F.d.length [], (F.size o).r⟩ : Fl) = _
        rw [splice_nil]
      rw [e]
      exact ⟨hwe, fun i hi => by rw [if_neg (by omega)]⟩
  refine h.change ht hu ⟨hpe.1, ?_, Nat.le_max_right _ _, fun i hi hk j hj hn => ?_, fun i hi => ?_⟩ fun i hi => ?_
  · rw [hGl]
    exact hsz.symm
  · rw [hGl] at hi
    rw [hpe.2 i hi] at hk
    show _ = (F.size o).d.getD i 0
    rw [List.getD_eq_getElem?_getD, hwd, if_pos hi]
    have hrj : S'.raw j i = S.raw j i := by
      by_cases e : j = n + 1
      · subst e; exact hrin i hi
      · exact hu.raw j i (by omega)
    rw [hrj]
    by_cases hil : i < F.d.length
    · rw [if_neg (by omega), hwk, if_pos hi, if_pos hil] at hk
      rw [if_pos hil, ← List.getD_eq_getElem?_getD]
      exact hA.jj i hil hk j hj fun l h1 h2 => by rw [← hdin i hi l]; exact hn l h1 h2
    · have him : N.most ≤ i := Nat.le_of_not_lt fun hlt => by
        rw [if_pos (by omega)] at hk
        cases hk
      rw [h.zero j i (by omega) him, if_neg hil]
      rfl
  · have hi' : (F.size o).r[i]? = some true := hi
    rw [hwr] at hi'
    by_cases hio : i < o
    · rw [if_pos hio] at hi'
      split at hi'
      · obtain ⟨l, h1, h2, h3⟩ := hA.wrote i hi'
        exact ⟨l, h1, h2, (hdin i hio l).trans h3⟩
      · cases hi'
    · rw [if_neg hio] at hi'; cases hi'
  · have hi' : max N.most o ≤ i := by rw [← hGl]; exact hi
    have hz1 := h.zero (n + 1) i (by omega) (by omega)
    have hz0 := h.zero n i (by omega) (by omega)
    rw [raw_succ] at hz1 ⊢
    rcases hso (i / 4096) with e | e
    · rw [e, hsn, hu.raw n i (by omega)]; exact hz1
    · rw [e]
      dsimp only
      rw [hu.raw n i (by omega), hz0]
      split <;> rfl

end Go.Proofs.YtkkliejgmgmebaaGreatDoor

namespace Go.Proofs.YtkkliejgmgmebaaGreatDoor
open Go.RowKit

/-- what the level below the last one holds at its end -/
theorem Ended.agree {S S' : St} {n most : Nat} {F G : Fl} (hS : Ended n S S') (hA : Agree S most (n + 1) F) (hd : G.d = F.d) (hk : G.k = F.k) (hev : G.Even) (hsz : S'.size n = S.size (n + 1)) (hw : ∀ i : Nat, G.r[i]? = some true → 0 < n ∧ F.r[i]? = some true) : Agree S' most n G := by
  have hlen := hA.len
  refine ⟨hev, by rw [hd, hlen, hsz], by rw [hd]; exact hA.le, fun i hi hki j hj hn => ?_, fun i hi => ?_⟩
  · rw [hd] at hi ⊢
    rw [hk] at hki
    have his : i < S.size (n + 1) := by rw [← hlen]; exact hi
    by_cases e : j = n
    · subst e
      rw [hS.rawin i his]
      by_cases hdi : S.dirty (j + 1) (i / 4096) = true
      · rw [if_pos hdi]
        exact hA.jj i hi hki (j + 1) (Nat.le_refl _) fun l h1 h2 => by omega
      · rw [if_neg hdi]
        refine hA.jj i hi hki j (by omega) fun l h1 h2 => ?_
        obtain rfl : l = j + 1 := by omega
        simpa using hdi
    · have h0 : 0 < n := by omega
      rw [hS.rawlo j i (by omega)]
      refine hA.jj i hi hki j (by omega) fun l h1 h2 => ?_
      have hdn := hn n (by omega) (Nat.le_refl _)
      have hin := hS.dirtyin h0 (i / 4096) (by omega)
      by_cases e1 : l = n + 1
      · subst e1
        cases hq : S.dirty (n + 1) (i / 4096) with
        | false => rfl
        | true => rw [hin.2 (.inr hq)] at hdn; cases hdn
      · by_cases e2 : l = n
        · subst e2
          cases hq : S.dirty l (i / 4096) with
          | false => rfl
          | true => rw [hin.2 (.inl hq)] at hdn; cases hdn
        · rw [← hS.dirtyo l _ (by omega) e2]
          exact hn l h1 (by omega)
  · obtain ⟨h0, hi'⟩ := hw i hi
    have his : i < F.d.length := by rw [← hA.ev.2]; exact (List.getElem?_eq_some_iff.1 hi').1
    obtain ⟨l, h1, h2, h3⟩ := hA.wrote i hi'
    have hin := hS.dirtyin h0 (i / 4096) (by rw [hlen] at his; omega)
    by_cases e1 : l = n + 1
    · subst e1
      exact ⟨n, h0, Nat.le_refl _, hin.2 (.inr h3)⟩
    · by_cases e2 : l = n
      · subst e2
        exact ⟨l, h0, Nat.le_refl _, hin.2 (.inl h3)⟩
      · exact ⟨l, h1, by omega, (hS.dirtyo l _ h1 e2).trans h3⟩

/-- beyond all that ever was there are zeros -/
theorem Ended.zero {N : Ns} {S S' : St} {n : Nat} (h : Inv N S) (ht : S.t = n + 1) (hS : Ended n S S') (hle : S.size (n + 1) ≤ N.most) : ∀ j i, j ≤ n → N.most ≤ i → S'.raw j i = 0 := fun j i hj hi => by
  by_cases e : j = n
  · subst e
    rcases hS.rawout i (by omega) with e | e | e | ⟨h0, e⟩
    · rw [e]; exact h.zero _ _ (by omega) hi
    · rw [e]; exact h.zero _ _ (by omega) hi
    · exact e
    · rw [e]; exact h.zero _ _ (by omega) hi
  · rw [hS.rawlo j i (by omega)]
    exact h.zero _ _ (by omega) hi

theorem Inv.end2 {N : Ns} {S S' : St} (h : Inv N S) {n : Nat} (ht : S.t = n + 2) {F : Fl} (hF : N.Fs[n + 2]? = some F) (hS : Ended (n + 1) S S') : Inv ⟨N.Fs.take (n + 1) ++ [F], N.opn, N.most⟩ S' := by
  have hA := h.ag _ _ hF
  have hl := h.len
  have htl : (N.Fs.take (n + 1)).length = n + 1 := by rw [List.length_take]; omega
  refine ⟨by show (N.Fs.take (n + 1) ++ [F]).length = _; rw [List.length_append, htl, hS.t]; rfl, fun k G hG => ?_, fun j i hj hi => ?_⟩
  · have hk : k < n + 2 := by
      have h1 := (List.getElem?_eq_some_iff.1 hG).1
      have h2 : (N.Fs.take (n + 1) ++ [F]).length = n + 2 := by rw [List.length_append, htl]; rfl
      rwa [h2] at h1
    by_cases e : k < n + 1
    · have hG2 : N.Fs[k]? = some G := by
        rw [← hG]
        show _ = (N.Fs.take (n + 1) ++ [F])[k]?
        rw [List.getElem?_append_left (by rw [htl]; exact e), List.getElem?_take_of_lt e]
      refine (h.ag k G hG2).cong (Nat.le_refl _) ?_ (fun j i hj => hS.rawlo j i (by omega)) (fun l p h1 h2 => hS.dirtyo l p h1 (by omega))
      cases k with
      | zero => show S'.fb.length = S.fb.length; rw [hS.fb (by omega)]
      | succ k => exact hS.sz (k + 1) (by omega) (by omega)
    · obtain rfl : k = n + 1 := by omega
      have hG2 : G = F := by
        have h1 : (N.Fs.take (n + 1) ++ [F])[n + 1]? = some G := hG
        rw [List.getElem?_append_right (by rw [htl]; exact Nat.le_refl _), htl, Nat.sub_self] at h1
        simp only [List.getElem?_cons_zero, Option.some.injEq] at h1
        exact h1.symm
      subst hG2
      exact hS.agree hA rfl rfl hA.ev (hS.size (.inr (by omega))) fun i hi => ⟨by omega, hi⟩
  · rw [hS.t] at hj
    exact Ended.zero h ht hS (by rw [← hA.len]; exact hA.le) j i hj hi

theorem Inv.end1 {N : Ns} {S S' : St} (h : Inv N S) (ht : S.t = 1) {F0 F1 : Fl} (hF : N.Fs = [F0, F1]) (hS : Ended 0 S S') {opn : Bool} (ho : (!anyW F1 && ((F0.d.length : Int) != (F1.d.length : Int))) = false) : Inv ⟨[F1.kept], opn, N.most⟩ S' := by
  have hA0 := h.ag 0 F0 (by rw [hF]; rfl)
  have hA := h.ag 1 F1 (by rw [hF]; rfl)
  have hsz : S'.size 0 = S.size 1 := by
    by_cases hd : ∃ p, S.dirty 1 p = true
    · exact hS.size (.inl hd)
    · have hnd : ∀ p, S.dirty 1 p = false := fun p => by
        cases hq : S.dirty 1 p with
        | false => rfl
        | true => exact absurd ⟨p, hq⟩ hd
      have hany : anyW F1 = false := by
        unfold anyW
        rw [List.any_eq_false]
        intro x hx
        obtain ⟨i, hi⟩ := List.getElem?_of_mem hx
        cases x with
        | false => decide
        | true =>
          obtain ⟨l, h1, h2, h3⟩ := hA.wrote i hi
          obtain rfl : l = 1 := by omega
          rw [hnd] at h3; cases h3
      rw [hany] at ho
      have h9 : ((F0.d.length : Nat) : Int) = ((F1.d.length : Nat) : Int) := by simpa using ho
      have hl : F0.d.length = F1.d.length := by omega
      have h5 : S'.size 0 = S.size 0 := by
        show S'.fb.length = S.fb.length
        rw [hS.same hnd rfl]
      rw [h5, ← hA0.len, ← hA.len, hl]
  have hev : F1.kept.Even := ⟨hA.ev.1, by show (List.replicate F1.d.length false).length = _; rw [List.length_replicate]; rfl⟩
  refine ⟨by rw [hS.t]; rfl, fun k G hG => ?_, fun j i hj hi => ?_⟩
  · cases k with
    | succ k => cases hG
    | zero =>
      have hG2 : G = F1.kept := by
        have h1 : some F1.kept = some G := hG
        cases h1; rfl
      subst hG2
      refine hS.agree hA rfl rfl hev hsz fun i hi => ?_
      have h1 : (List.replicate F1.d.length false)[i]? = some true := hi
      rw [List.getElem?_replicate] at h1
      split at h1 <;> cases h1
  · rw [hS.t] at hj
    exact Ended.zero h ht hS (by rw [← hA.len]; exact hA.le) j i hj hi

/-- the shapes of a reference of some states -/
theorem two_of {Fs : List Fl} (h : Fs.length = 2) : ∃ F0 F1, Fs = [F0, F1] := by
  match Fs, h with
  | [a, b], _ => exact ⟨a, b, rfl⟩

/-- what a call answers -/
structure StepOk (N : Ns) (kind off size : Int) (xs : List UInt8) (r : Res) : Prop where
  rd : kind = 1 → r.n = r.d.length ∧ r.d.length = ((N.top.d.drop off.toNat).take size.toNat).length ∧ (r.err = 0 ∨ r.err = 1) ∧ ∀ i : Nat, ((N.top.k.drop off.toNat).take size.toNat)[i]? = some true → r.d[i]? = ((N.top.d.drop off.toNat).take size.toNat)[i]?
  sz : kind = 4 → r.sz = N.top.d.length ∧ r.err = 0
  ok : kind ≠ 1 → ((nstep N kind off size xs).2 = true → r.err = 0) ∧ ((nstep N kind off size xs).2 = false → r.err = 2)

theorem Inv.read {N : Ns} {S S' : St} (h : Inv N S) {off size : Int} {xs : List UInt8} {r : Res} (hs : SStep S 1 off size xs r S') : StepOk N 1 off size xs r := by
  obtain ⟨d, hd, hn, hrd, he, -⟩ := hs.rd rfl
  obtain ⟨F, hF, htop, hA⟩ := h.top
  have hdl : r.d.length = d := by rw [hrd, St.rd_length]
  refine ⟨fun _ => ⟨by rw [hn, hdl], ?_, he, fun i hi => ?_⟩, fun e => absurd e (by decide), fun e => absurd rfl e⟩
  · rw [hdl, htop, List.length_take, List.length_drop, hA.len, hd]
    omega
  · rw [htop] at hi ⊢
    have hi1 : i < size.toNat := by
      have := (List.getElem?_eq_some_iff.1 hi).1
      rw [List.length_take] at this
      omega
    rw [List.getElem?_take_of_lt hi1, List.getElem?_drop] at hi
    have hi2 : off.toNat + i < F.d.length := by rw [← hA.ev.1]; exact (List.getElem?_eq_some_iff.1 hi).1
    rw [List.getElem?_take_of_lt hi1, List.getElem?_drop, List.getElem?_eq_getElem hi2, hrd]
    have hid : i < d := by rw [hd, ← hA.len]; omega
    have h1 := hA.jj _ hi2 hi S.t (Nat.le_refl _) fun l h1 h2 => by omega
    unfold St.rd
    rw [List.getElem?_map, List.getElem?_range hid]
    show some (S.raw S.t (off.toNat + i)) = _
    rw [h1, List.getD_eq_getElem?_getD, List.getElem?_eq_getElem hi2]
    rfl

/-- a call keeps it, and answers as the reference says -/
theorem inv_step {N : Ns} {S S' : St} {kind off size : Int} {xs : List UInt8} {r : Res} (h : Inv N S) (hs : SStep S kind off size xs r S') (hk : kind = 0 ∨ kind = 1 ∨ kind = 2 ∨ kind = 4 ∨ kind = 5 ∨ kind = 6 ∨ kind = 7) (ho : (nstep N kind off size xs).1.opn = false) :
    Inv (nstep N kind off size xs).1 S' ∧ StepOk N kind off size xs r := by
  obtain ⟨F, hF, htop, hA⟩ := h.top
  have hl := h.len
  have hperm : (kind = 0 ∨ kind = 2 ∨ kind = 6 ∨ kind = 7) → S.t = 0 → Inv (nstep N kind off size xs).1 S' ∧ StepOk N kind off size xs r := fun hp h0 => by
    obtain ⟨he, rfl⟩ := hs.perm hp h0
    rw [nstep_not off size xs kind hp (by omega)]
    refine ⟨h, fun e => by omega, fun e => by omega, fun _ => ?_⟩
    rw [nstep_not off size xs kind hp (by omega)]
    exact ⟨fun e => (by cases e), fun _ => he⟩
  rcases hk with rfl | rfl | rfl | rfl | rfl | rfl | rfl
  · by_cases h0 : S.t = 0
    · exact hperm (.inl rfl) h0
    obtain ⟨n, hn⟩ : ∃ n, S.t = n + 1 := ⟨S.t - 1, by omega⟩
    obtain ⟨he, hw⟩ := hs.wr rfl (by omega)
    rw [hn] at hF
    have e := nstep_chg off size xs 0 (.inl rfl) (show N.Fs.length = n + 2 by omega) hF
    rw [e]
    exact ⟨h.wr hn hF hw, fun e => absurd e (by decide), fun e => absurd e (by decide), fun _ => by rw [e]; exact ⟨fun _ => he, fun e => (by cases e)⟩⟩
  · rw [nstep_read off size xs 1 (.inl rfl)]
    obtain ⟨d, -, -, -, -, hL⟩ := hs.rd rfl
    exact ⟨h.loads hL, h.read hs⟩
  · by_cases h0 : S.t = 0
    · exact hperm (.inr (.inl rfl)) h0
    obtain ⟨n, hn⟩ : ∃ n, S.t = n + 1 := ⟨S.t - 1, by omega⟩
    obtain ⟨he, hw⟩ := hs.tr rfl (by omega)
    rw [hn] at hF
    have e := nstep_chg off size xs 2 (.inr rfl) (show N.Fs.length = n + 2 by omega) hF
    rw [e]
    exact ⟨h.tr hn hF hw, fun e => absurd e (by decide), fun e => absurd e (by decide), fun _ => by rw [e]; exact ⟨fun _ => he, fun e => (by cases e)⟩⟩
  · obtain ⟨he, hz, rfl⟩ := hs.sz rfl
    have e := nstep_read (N := N) off size xs 4 (.inr rfl)
    rw [e]
    exact ⟨h, fun e => absurd e (by decide), fun _ => ⟨by rw [hz, htop, hA.len], he⟩, fun _ => by rw [e]; exact ⟨fun _ => he, fun e => (by cases e)⟩⟩
  · obtain ⟨he, b, m, rfl⟩ := hs.bg rfl
    have e := nstep_begin off size xs hl hF
    rw [e]
    exact ⟨h.push b m hF, fun e => absurd e (by decide), fun e => absurd e (by decide), fun _ => by rw [e]; exact ⟨fun _ => he, fun e => (by cases e)⟩⟩
  · by_cases h0 : S.t = 0
    · exact hperm (.inr (.inr (.inl rfl))) h0
    obtain ⟨he, hw⟩ := hs.en rfl (by omega)
    by_cases h1 : S.t = 1
    · obtain ⟨F0, F1, hFs⟩ := two_of (show N.Fs.length = 2 by omega)
      have e := nstep_end1 off size xs F0 F1 hFs
      rw [e] at ho ⊢
      simp only [Bool.or_eq_false_iff] at ho
      rw [h1] at hw
      exact ⟨h.end1 h1 hFs hw ho.2, fun e => absurd e (by decide), fun e => absurd e (by decide), fun _ => by rw [e]; exact ⟨fun _ => he, fun e => (by cases e)⟩⟩
    · obtain ⟨n, hn⟩ : ∃ n, S.t = n + 2 := ⟨S.t - 2, by omega⟩
      rw [hn] at hF hw
      have e := nstep_end2 off size xs (show N.Fs.length = n + 3 by omega) hF
      rw [e]
      exact ⟨h.end2 hn hF hw, fun e => absurd e (by decide), fun e => absurd e (by decide), fun _ => by rw [e]; exact ⟨fun _ => he, fun e => (by cases e)⟩⟩
  · by_cases h0 : S.t = 0
    · exact hperm (.inr (.inr (.inr rfl))) h0
    obtain ⟨n, hn⟩ : ∃ n, S.t = n + 1 := ⟨S.t - 1, by omega⟩
    obtain ⟨he, hw⟩ := hs.rb rfl (by omega)
    have e := nstep_rb (N := N) off size xs (show N.Fs.length = n + 2 by omega)
    rw [e, hw, hn]
    exact ⟨h.pop hn, fun e => absurd e (by decide), fun e => absurd e (by decide), fun _ => by rw [e]; exact ⟨fun _ => he, fun e => (by cases e)⟩⟩

/-- the reference behind calls -/
def nseq (N : Ns) (L : List Op) : Ns := L.foldl (fun N o => (nstep N o.kind o.off o.size o.d).1) N
theorem nseq_snoc (N : Ns) (L : List Op) (o : Op) : nseq N (L ++ [o]) = (nstep (nseq N L) o.kind o.off o.size o.d).1 := by simp [nseq]

theorem take_snoc' {α : Type} {L : List α} {i : Nat} {o : α} (h : L[i]? = some o) : L.take (i + 1) = L.take i ++ [o] := by
  rw [List.take_add_one, h]; rfl

theorem nseq_open (N : Ns) (L : List Op) : ∀ i, (nseq N L).opn = false → (nseq N (L.take i)).opn = false := by
  intro i h
  by_cases hi : L.length ≤ i
  · rw [List.take_of_length_le hi]; exact h
  obtain ⟨m, hm⟩ : ∃ m, L.length = i + m := ⟨L.length - i, by omega⟩
  have key : ∀ m, i + m ≤ L.length → (nseq N (L.take (i + m))).opn = false → (nseq N (L.take i)).opn = false := by
    intro m
    induction m with
    | zero => exact fun _ h => h
    | succ m ih =>
      intro hl h
      obtain ⟨o, ho⟩ : ∃ o, L[i + m]? = some o := ⟨_, List.getElem?_eq_getElem (by omega)⟩
      refine ih (by omega) ?_
      rw [show i + (m + 1) = i + m + 1 by omega, take_snoc' ho, nseq_snoc] at h
      exact nstep_open _ _ _ _ _ h
  refine key m (by omega) ?_
  rw [← hm, List.take_length]
  exact h

theorem inv_start (S0 : St) (h0 : S0.t = 0) : Inv ⟨[Fl.new S0.fb], false, S0.fb.length⟩ S0 := by
  refine ⟨by rw [h0]; rfl, fun k F hF => ?_, fun j i hj hi => ?_⟩
  · cases k with
    | succ k => cases hF
    | zero =>
      have hF2 : F = Fl.new S0.fb := by
        have h1 : some (Fl.new S0.fb) = some F := hF
        cases h1; rfl
      subst hF2
      refine ⟨⟨by simp [Fl.new], by simp [Fl.new]⟩, rfl, Nat.le_refl _, fun i hi hk j hj _ => ?_, fun i hi => ?_⟩
      · obtain rfl : j = 0 := by omega
        rfl
      · have h1 : (List.replicate S0.fb.length false)[i]? = some true := hi
        rw [List.getElem?_replicate] at h1
        split at h1 <;> cases h1
  · obtain rfl : j = 0 := by omega
    show S0.fb.getD i 0 = 0
    rw [List.getD_eq_getElem?_getD, List.getElem?_eq_none hi]
    rfl

theorem runs_inv {S0 : St} {L : List Op} {R : List RS} {Ss : Nat → St} (hr : Runs S0 L R Ss) (h0 : S0.t = 0) (hf : fitsR L) (ho : (nseq ⟨[Fl.new S0.fb], false, S0.fb.length⟩ L).opn = false) :
    ∀ i, i ≤ L.length → Inv (nseq ⟨[Fl.new S0.fb], false, S0.fb.length⟩ (L.take i)) (Ss i) := by
  intro i
  induction i with
  | zero =>
    intro _
    rw [List.take_zero, hr.zero]
    exact inv_start S0 h0
  | succ i ih =>
    intro hi
    have hl := hr.len
    obtain ⟨o, hoo⟩ : ∃ o, L[i]? = some o := ⟨_, List.getElem?_eq_getElem (by omega)⟩
    obtain ⟨x, hx⟩ : ∃ x, R[i]? = some x := ⟨_, List.getElem?_eq_getElem (by omega)⟩
    obtain ⟨⟨len, hfl⟩, h3, -⟩ := hf i o hoo
    have hop := nseq_open _ L (i + 1) ho
    rw [take_snoc' hoo, nseq_snoc] at hop ⊢
    exact (inv_step (ih (by omega)) (hr.step i x o hx hoo) (kind_cases hfl h3) hop).1

/-- every result is the reference's -/
theorem runs_ok {S0 : St} {L : List Op} {R : List RS} {Ss : Nat → St} (hr : Runs S0 L R Ss) (h0 : S0.t = 0) (hf : fitsR L) (ho : (nseq ⟨[Fl.new S0.fb], false, S0.fb.length⟩ L).opn = false) (i : Nat) (o : Op) (x : RS) (hoo : L[i]? = some o) (hx : R[i]? = some x) :
    StepOk (nseq ⟨[Fl.new S0.fb], false, S0.fb.length⟩ (L.take i)) o.kind o.off o.size o.d x.r := by
  obtain ⟨⟨len, hfl⟩, h3, -⟩ := hf i o hoo
  have hi : i < L.length := (List.getElem?_eq_some_iff.1 hoo).1
  have hop := nseq_open _ L (i + 1) ho
  rw [take_snoc' hoo, nseq_snoc] at hop
  exact (inv_step (runs_inv hr h0 hf ho i (by omega)) (hr.step i x o hx hoo) (kind_cases hfl h3) hop).2

/-- and so is what is kept -/
theorem runs_same {S0 : St} {L : List Op} {R : List RS} {Ss : Nat → St} (hr : Runs S0 L R Ss) (h0 : S0.t = 0) (hf : fitsR L) (ho : (nseq ⟨[Fl.new S0.fb], false, S0.fb.length⟩ L).opn = false) :
    ∃ F, (nseq ⟨[Fl.new S0.fb], false, S0.fb.length⟩ L).Fs[0]? = some F ∧ (Ss L.length).fb.length = F.d.length ∧ ∀ i : Nat, F.k[i]? = some true → (Ss L.length).fb[i]? = F.d[i]? := by
  have h := runs_inv hr h0 hf ho L.length (Nat.le_refl _)
  rw [List.take_length] at h
  obtain ⟨F, hF⟩ : ∃ F, (nseq ⟨[Fl.new S0.fb], false, S0.fb.length⟩ L).Fs[0]? = some F := ⟨_, List.getElem?_eq_getElem (by rw [h.len]; omega)⟩
  have hA := h.ag 0 F hF
  have hl : F.d.length = (Ss L.length).fb.length := hA.len
  refine ⟨F, hF, hl.symm, fun i hi => ?_⟩
  have hi2 : i < F.d.length := by rw [← hA.ev.1]; exact (List.getElem?_eq_some_iff.1 hi).1
  have h1 : (Ss L.length).fb.getD i 0 = F.d.getD i 0 := hA.jj i hi2 hi 0 (Nat.le_refl _) fun l h1 h2 => by omega
  rw [List.getD_eq_getElem?_getD, List.getD_eq_getElem?_getD, List.getElem?_eq_getElem hi2, List.getElem?_eq_getElem (show i < (Ss L.length).fb.length by omega)] at h1
  rw [List.getElem?_eq_getElem hi2, List.getElem?_eq_getElem (show i < (Ss L.length).fb.length by omega)]
  simpa using h1

/-- how deep transactions lie in each other -/
theorem nstep_len (N : Ns) (t : Nat) (kind off size : Int) (xs : List UInt8) (h : N.Fs.length = t + 1) (hk : kind = 0 ∨ kind = 1 ∨ kind = 2 ∨ kind = 4 ∨ kind = 5 ∨ kind = 6 ∨ kind = 7) : (nstep N kind off size xs).1.Fs.length = stepT t kind + 1 := by
  by_cases h5 : kind = 5
  · unfold nstep stepT
    rw [if_pos h5, if_pos h5]
    show (N.Fs ++ [N.top]).length = _
    rw [List.length_append, h]
    rfl
  by_cases h1 : kind = 1 ∨ kind = 4
  · rw [nstep_read _ _ _ _ h1]
    unfold stepT
    rw [if_neg h5, if_neg (by omega)]
    exact h
  by_cases hl : N.Fs.length = 1
  · rw [nstep_not _ _ _ _ (by omega) hl]
    unfold stepT
    rw [if_neg h5]
    show N.Fs.length = _
    split <;> omega
  by_cases h7 : kind = 7
  · unfold nstep stepT
    rw [if_neg h5, if_neg h1, if_neg hl, if_pos h7, if_neg h5, if_pos (.inr h7)]
    show (N.Fs.take _).length = _
    rw [List.length_take]
    omega
  by_cases h6 : kind = 6
  · have e : stepT t kind = t - 1 := by
      unfold stepT
      rw [if_neg h5, if_pos (.inl h6)]
    rw [e]
    unfold nstep
    rw [if_neg h5, if_neg h1, if_neg hl, if_neg h7, if_pos h6]
    split
    · show 1 = _
      omega
    · show (N.Fs.take _ ++ [N.top]).length = _
      rw [List.length_append, List.length_take, List.length_singleton]
      omega
  · unfold nstep stepT
    rw [if_neg h5, if_neg h1, if_neg hl, if_neg h7, if_neg h6, if_neg h5, if_neg (by omega)]
    show (N.Fs.set _ _).length = _
    rw [List.length_set]
    exact h

end Go.Proofs.YtkkliejgmgmebaaGreatDoor
