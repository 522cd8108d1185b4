/-
  A region that draws its order, by a statement that every operation hands on. Three appends in one assignment.
-/
import Derived.Test.YtkkliejgmgmebaaDoorB1
namespace Go.Proofs.YtkkliejgmgmebaaDoor
open Go.RowKit

/-- how many operations are still to come -/
def todo (n : Nat) (listed : Array Bool) : Nat := ((List.range n).filter fun i => !listed.getD i true).length

theorem todo_lt {n i : Nat} {listed : Array Bool} (hi : i < n) (hl : listed.getD i true = false) : todo n (listed.setIfInBounds i true) < todo n listed := by
  have e : ((List.range n).filter fun j => !(listed.setIfInBounds i true).getD j true) = (((List.range n).filter fun j => !listed.getD j true).filter fun j => decide (j ≠ i)) := by
    rw [List.filter_filter]
    refine List.filter_congr fun j _ => ?_
    by_cases hj : j = i
    · subst hj
      rw [Array.getD_eq_getD_getElem?, Array.getElem?_setIfInBounds_self]
      split <;> simp
    · rw [getD_set_ne true (fun e => hj e.symm)]
      simp [hj]
  unfold todo
  rw [e]
  refine List.length_filter_lt_length_iff_exists.2 ⟨i, ?_, by simp⟩
  rw [List.mem_filter]
  exact ⟨List.mem_range.2 hi, by rw [hl]; rfl⟩

section
variable {P : Program} {md : Region.Mode} {ops : Array Oper} {Q : Exit → Act → World → Prop}

/-- WHAT EVERY OPERATION HANDS ON holds till the region is through. -/
theorem wpAny_inv (I : Array Bool → Act → World → Prop)
    (hstep : ∀ listed a w, I listed a w → (∀ fuel, todo ops.size listed ≤ fuel → wpAny P md ops Q fuel listed a w) ∨
      (Region.ready md ops listed ≠ [] ∧ ∀ i ∈ Region.ready md ops listed, wpOp P ops Q i (I (listed.setIfInBounds i true)) a w)) :
    ∀ (fuel : Nat) (listed : Array Bool) (a : Act) (w : World), todo ops.size listed ≤ fuel → I listed a w → wpAny P md ops Q fuel listed a w := by
  intro fuel
  induction fuel with
  | zero =>
    intro listed a w ht hI
    rcases hstep listed a w hI with h | ⟨hne, -⟩
    · exact h 0 ht
    · obtain ⟨i, hi⟩ := List.exists_mem_of_ne_nil _ hne
      obtain ⟨h0, o, ho, -⟩ := mem_ready.1 hi
      have := todo_lt (n := ops.size) (Array.getElem?_eq_some_iff.1 ho).1 h0
      omega
  | succ fuel ih =>
    intro listed a w ht hI
    rcases hstep listed a w hI with h | ⟨hne, hr⟩
    · exact h _ ht
    · refine ⟨fun h => absurd h hne, fun i hi => ?_⟩
      obtain ⟨h0, o, ho, -⟩ := mem_ready.1 hi
      have := todo_lt (n := ops.size) (Array.getElem?_eq_some_iff.1 ho).1 h0
      exact wpOp_mono (fun a w hI => ih _ a w (by omega) hI) (hr i hi)

/-- an operation that yields a value -/
theorem wpOp_value {i : Nat} {o : Oper} {K : Act → World → Prop} {a : Act} {w w' : World} {v : Value} (ho : ops[i]? = some o) (hg : o.guard = none)
    (hr : (execOp a.eval o).run P w = .ok (.value v) w') (h : K (a.put o.dst v) w') : wpOp P ops Q i K a w := by
  unfold wpOp
  rw [ho]
  simp only [Region.wanted, hg, if_true]
  refine .inl ?_
  unfold Oper.wp
  rw [hr]
  exact h
end

/-- a strand's own blocks: those that bear its label -/
def Lb (Pr : Nat → Prop) (g : Nat) (lab : Nat → Nat) (i : Nat) : Nat → Prop := fun k => Pr k ∨ k = g ∨ lab k ≠ i

/-- ONE STRAND of 'a, b, c = append(a, x), append(b, y), append(c, z)': has its slice been read (L), the element been laid (N), the append been made (A)? -/
structure Strand (Pr : Nat → Prop) (g : Nat) (lab : Nat → Nat) (w : World) (i : Nat) (e : TypeId) (c : Value) (v : Value) (n : Nat) (xs : List Value) (L N A : Bool) (sv sn sa : Value) : Prop where
  before : A = false → Row (Lb Pr g lab i) w e 1 v n xs
  loaded : L = true → sv = v
  temp : A = false → N = true → ∃ b, b < w.heap.size ∧ lab b = i + 3 ∧ sn = .slice (some ⟨b, 0, none⟩) 1 1 ∧ w.heap[b]? = some (.cells #[c] e (0, 0))
  after : A = true → Row (Lb Pr g lab i) w e 1 sa (n + 1) (xs ++ [c])

section
variable {Pr : Nat → Prop} {g : Nat} {lab lab' : Nat → Nat} {w w' : World} {i : Nat} {e : TypeId} {c v : Value} {n : Nat} {xs : List Value} {L N A : Bool} {sv sn sa : Value}

theorem Row.relab {v : Value} {n : Nat} (h : Row (Lb Pr g lab i) w e 1 v n xs) (hl : ∀ k, k < w.heap.size → lab' k = lab k) (hk : ∀ k, k < w.heap.size → lab k = i → w'.heap[k]? = w.heap[k]?) : Row (Lb Pr g lab' i) w' e 1 v n xs := by
  have hlab : ∀ k, v.ownBlock = some k → k < w.heap.size ∧ lab k = i := fun k hk => by
    obtain ⟨h1, h2, -⟩ := h.own hk
    refine ⟨h1, Classical.byContradiction fun hne => h2 (.inr (.inr hne))⟩
  refine (h.kept (w' := w') fun k hk' => hk k (hlab k hk').1 (hlab k hk').2).widen fun k hk' => ?_
  rintro (h1 | h1 | h1)
  · exact (h.own hk').2.1 (.inl h1)
  · exact (h.own hk').2.1 (.inr (.inl h1))
  · exact h1 ((hl k (hlab k hk').1).trans (hlab k hk').2)

/-- what another strand does leaves this one as it is -/
theorem Strand.stable (h : Strand Pr g lab w i e c v n xs L N A sv sn sa) (hs : w.heap.size ≤ w'.heap.size) (hl : ∀ k, k < w.heap.size → lab' k = lab k) (hk : ∀ k, k < w.heap.size → lab k = i ∨ lab k = i + 3 → w'.heap[k]? = w.heap[k]?) :
    Strand Pr g lab' w' i e c v n xs L N A sv sn sa := by
  refine ⟨fun hA => (h.before hA).relab hl fun k h1 h2 => hk k h1 (.inl h2), h.loaded, fun hA hN => ?_, fun hA => (h.after hA).relab hl fun k h1 h2 => hk k h1 (.inl h2)⟩
  obtain ⟨b, h1, h2, h3, h4⟩ := h.temp hA hN
  exact ⟨b, Nat.lt_of_lt_of_le h1 hs, (hl b h1).trans h2, h3, (hk b h1 (.inr h2)).trans h4⟩

/-- the slice is read -/
theorem Strand.load (h : Strand Pr g lab w i e c v n xs L N A sv sn sa) : Strand Pr g lab w i e c v n xs true N A v sn sa :=
  ⟨h.before, fun _ => rfl, h.temp, h.after⟩

/-- the label of a new block -/
def labNew (lab : Nat → Nat) (w : World) (j : Nat) : Nat → Nat := fun k => if k = w.heap.size then j else lab k
theorem labNew_old (lab : Nat → Nat) (w : World) (j : Nat) : ∀ k, k < w.heap.size → labNew lab w j k = lab k := fun k hk => by unfold labNew; rw [if_neg (by omega)]
theorem labNew_new (lab : Nat → Nat) (w : World) (j : Nat) : labNew lab w j w.heap.size = j := by unfold labNew; rw [if_pos rfl]

/-- the element is laid -/
theorem Strand.laid (h : Strand Pr g lab w i e c v n xs L N A sv sn sa) : Strand Pr g (labNew lab w (i + 3)) (w.alloc (.cells #[c] e)) i e c v n xs L true A sv (.slice (some ⟨w.heap.size, 0, none⟩) 1 1) sa := by
  have hl := labNew_old lab w (i + 3)
  have hk : ∀ k, k < w.heap.size → (w.alloc (.cells #[c] e)).heap[k]? = w.heap[k]? := fun k h => Below.heap_alloc _ _ _ h
  exact ⟨fun hA => (h.before hA).relab hl fun k h1 _ => hk k h1, h.loaded, fun _ _ => ⟨w.heap.size, by simp, labNew_new _ _ _, rfl, heap_alloc_new w _⟩, fun hA => (h.after hA).relab hl fun k h1 _ => hk k h1⟩

/-- the append -/
theorem Strand.append {P : Program} (h : Strand Pr g lab w i e c v n xs true true false sv sn sa) (hin : Inw Pr w) (hgw : g < w.heap.size) (t ty : TypeId) (inf : TypeInfo) (z : Value) (ht : P.underlying t = some (.slice e)) (hi : P.info? e = some inf) (hz : inf.zero = some z)
    (hsize : inf.size = 1) (hby : inf.bytes = 1) (hzs : z.cells.size = 1) (hc1 : c.oneCell' = true) (hb : n + 1 ≤ 140737488355328) :
    ∃ v' w', (Builtin.append_ #[t, t] ty #[sv, sn]).run P w = .ok v' w' ∧ Strand Pr g (labNew lab w i) w' i e c v n xs true true true sv sn v' ∧ w.heap.size ≤ w'.heap.size ∧
      (∀ k, k < w.heap.size → lab k ≠ i → w'.heap[k]? = w.heap[k]?) ∧ Keeps (fun k => Pr k ∨ k = g) w w' := by
  obtain rfl := h.loaded rfl
  obtain ⟨b, h1, h2, rfl, h4⟩ := h.temp rfl rfl
  have hrow := h.before rfl
  have hown : ∀ k, sv.ownBlock = some k → k < w.heap.size ∧ ¬ Pr k ∧ k ≠ g ∧ lab k = i := fun k hk => by
    obtain ⟨h1, h2, -⟩ := hrow.own hk
    exact ⟨h1, fun h => h2 (.inl h), fun h => h2 (.inr (.inl h)), Classical.byContradiction fun hne => h2 (.inr (.inr hne))⟩
  have hnew : ¬ Lb Pr g (labNew lab w i) i w.heap.size := by
    rintro (h | h | h)
    · exact Nat.lt_irrefl _ (hin _ h)
    · omega
    · exact h (labNew_new _ _ _)
  have hrow' : Row (Lb Pr g (labNew lab w i) i) w e 1 sv n xs := hrow.relab (labNew_old lab w i) fun _ _ _ => rfl
  have hcell : ∀ j u, [c][j]? = some u → w.cell? ((⟨b, 0, none⟩ : Addr).add j) = some u := by
    intro j u hj
    have hj0 : j = 0 := by
      rcases j with _ | j
      · rfl
      · simp at hj
    subst hj0
    simp only [List.getElem?_cons_zero, Option.some.injEq] at hj
    subst hj
    show w.cell? ⟨b, 0, none⟩ = some c
    rw [cell_of_row w b 0 #[c] e (0, 0) h4]
    rfl
  obtain ⟨v', w', hr, hR, hg, -⟩ := run_append_row (P := P) hnew t ty inf z 1 ht hi hz hsize hby hzs hrow' ⟨b, 0, none⟩ 1 1 [c] rfl hcell (by simpa using hc1) (by unfold maxLen; omega) (by omega)
  refine ⟨v', w', hr, ⟨fun h => by (cases h), fun _ => rfl, fun h => by (cases h), fun _ => hR⟩, hg.size, fun k hk hne => hg.block k hk (fun e => ?_), hg.os, hg.tape, hg.output, hg.size, fun k hk => hg.block k ?_ (fun e => ?_)⟩
  · exact hne (hown k e.symm).2.2.2
  · rcases hk with h | h
    · exact hin k h
    · omega
  · rcases hk with h | h
    · exact (hown k e.symm).2.1 h
    · exact (hown k e.symm).2.2.1 h
end

end Go.Proofs.YtkkliejgmgmebaaDoor
