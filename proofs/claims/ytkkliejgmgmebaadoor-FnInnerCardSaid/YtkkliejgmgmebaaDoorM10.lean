/-
  impl.calls over a MemFiler: its loop.
-/
import Derived.Test.YtkkliejgmgmebaaDoorM9
namespace Go.Proofs.YtkkliejgmgmebaaDoor
open Go.RowKit

theorem wpList_append_row {P : Program} {ops : Array Oper} {rest : List Oper} {o : Oper} {a : Act} {Q : Exit → Act → World → Prop} {w : World} (hgd : o.guard = none) (s x : Operand) (t : TypeId)
    (ho : o.op = .call { callee := .builtin .append, args := #[s, x], argTypes := #[t, t] })
    {Pr : Nat → Prop} {e : TypeId} {size : Nat} {v : Value} {n : Nat} {xs : List Value} (hnew : ¬ Pr w.heap.size) (i : TypeInfo) (z : Value) (bytes : Nat) (ht : P.underlying t = some (.slice e)) (hi : P.info? e = some i) (hz : i.zero = some z)
    (hsize : i.size = size) (hby : i.bytes = bytes) (hzs : z.cells.size = size) (hrow : Row Pr w e size v n xs) (hs : a.eval s = v) (ad : Addr) (m c : Nat) (hx : a.eval x = .slice (some ad) m c) (news : List Value) (hl : news.length = m * size)
    (hnews : ∀ j u, news[j]? = some u → w.cell? (ad.add j) = some u) (h1 : ∀ u ∈ news, u.oneCell' = true) (h63 : n + m ≤ maxLen) (hbytes : (n + m) * bytes ≤ 140737488355328)
    (h : ∀ v' w', Row Pr w' e size v' (n + m) (xs ++ news) → w.grownBy w' v.ownBlock → (v'.ownBlock = v.ownBlock ∨ v'.ownBlock = some w.heap.size) → wpList P ops Q rest (a.put o.dst v') w') : wpList P ops Q (o :: rest) a w := by
  refine wpList_plain hgd fun K hK => ?_
  obtain ⟨v', w', hrun, h2, h3, h4⟩ := run_append_row (P := P) hnew t o.type i z bytes ht hi hz hsize hby hzs hrow ad m c news hl hnews h1 h63 hbytes
  unfold Oper.wp
  simp [execOp, ho, resolve, invoke, builtin, hs, hx, hrun, Result.andThen]
  exact hK _ _ (h v' w' h2 h3 h4)

theorem cell_newRow (W : World) (t : TypeId) (cs : List Value) (j : Nat) : (W.alloc (.cells cs.toArray t)).cell? ((⟨W.heap.size, 0, none⟩ : Addr).add j) = cs[j]? := by
  have ha : (⟨W.heap.size, 0, none⟩ : Addr).add j = ⟨W.heap.size, j, none⟩ := by unfold Addr.add; split <;> simp_all
  rw [ha, cell_of_row _ _ j cs.toArray t (0, 0) (heap_alloc_new W _)]
  simp

/-- what impl.calls has done: the results, where they lie, the file's bytes -/
structure Done (Pr : Nat → Prop) (w0 w : World) (gm gz : Nat) (bs0 : List UInt8) (L : List Op) (vout : Value) (Y : Nat → Prop) (R : List RS) (vm : Value) : Prop where
  row : Row (fun k => Pr k ∨ Y k) w 40 4 vout L.length (R.flatMap RS.cells)
  res : Results bs0 L R
  data : ∀ x ∈ R, Rd Y w x.a x.r.d.length x.r.d ∧ x.r.d.length ≤ x.c
  inY : Inw Y w
  mem : MemIs (fun k => (Pr k ∨ Y k) ∨ vout.ownBlock = some k) w gm gz vm (memB bs0 L)
  keeps : Keeps Pr w0 w

theorem Done.inw {Pr Y : Nat → Prop} {w0 w : World} {gm gz : Nat} {bs0 : List UInt8} {L : List Op} {vout vm : Value} {R : List RS} (h : Done Pr w0 w gm gz bs0 L vout Y R vm) (hin : Inw Pr w0) : Inw (fun k => (Pr k ∨ Y k) ∨ vout.ownBlock = some k) w := fun k hk => by
  rcases hk with (h1 | h1) | h1
  · exact h.keeps.inw hin k h1
  · exact h.inY k h1
  · exact (h.row.own h1).1

theorem take_snoc {α : Type} {L : List α} {i : Nat} {x : α} (h : L[i]? = some x) : L.take (i + 1) = L.take i ++ [x] := by
  obtain ⟨hl, e⟩ := List.getElem?_eq_some_iff.1 h
  rw [List.take_succ_eq_append_getElem hl, e]

/-- one round: a call, and its result appended -/
theorem Done.step {Pr Y X : Nat → Prop} {w0 w W1 w2 W3 w5 : World} {gm gz i : Nat} {bs0 : List UInt8} {L : List Op} {vout vm v' vout' : Value} {R : List RS} {o : Op} {x : RS} (h : Done Pr w0 w gm gz bs0 (L.take i) vout Y R vm) (hin : Inw Pr w0) (hx : L[i]? = some o)
    (hW1 : Keeps (Old w) w W1) (hX : Inw X w2 ∧ ∀ k, X k → W1.heap.size ≤ k) (hr : Rd X w2 x.a x.r.d.length x.r.d) (hc : x.r.d.length ≤ x.c) (hok : resOk (memB bs0 (L.take i)) o.kind o.off o.size o.n x.r)
    (hm : MemIs (fun k => ((Pr k ∨ Y k) ∨ vout.ownBlock = some k) ∨ X k) w2 gm gz v' (mstep (memB bs0 (L.take i)) o.kind o.off o.size o.d)) (hk : Keeps (fun k => (Pr k ∨ Y k) ∨ vout.ownBlock = some k) W1 w2)
    (hW3 : Keeps (Old w2) w2 W3) (hrow : Row (fun k => (Pr k ∨ Y k) ∨ X k) w5 40 4 vout' ((L.take i).length + 1) (R.flatMap RS.cells ++ x.cells)) (hg : W3.grownBy w5 vout.ownBlock) (ho : vout'.ownBlock = vout.ownBlock ∨ vout'.ownBlock = some W3.heap.size) :
    Done Pr w0 w5 gm gz bs0 (L.take (i + 1)) vout' (fun k => Y k ∨ X k) (R ++ [x]) v' := by
  have hinw := h.inw hin
  have hown : ∀ k, vout.ownBlock = some k → k < w.heap.size := fun k hk => (h.row.own hk).1
  have hXo : ∀ k, X k → vout.ownBlock ≠ some k := fun k hk e => by have := hX.2 k hk; have := hown k e; have := hW1.size; omega
  have hsz : w.heap.size ≤ w2.heap.size := Nat.le_trans hW1.size hk.size
  -- from w2 on all that is kept but the row
  have hk5 : Keeps (fun k => k < w2.heap.size ∧ vout.ownBlock ≠ some k) w2 w5 := (hW3.mono fun k h => h.1).trans (Keeps.grown (fun k h => Nat.lt_of_lt_of_le h.1 hW3.size) hg fun k e h => h.2 e)
  have hkPr : Keeps (fun k => Pr k ∨ Y k) w w5 := ((hW1.mono fun k hp => hinw k (.inl hp)).trans (hk.mono fun k hp => .inl hp)).trans (hk5.mono fun k hp => ⟨Nat.lt_of_lt_of_le (hinw k (.inl hp)) hsz, fun e => (h.row.own e).2.1 hp⟩)
  rw [take_snoc hx]
  have el : (L.take i ++ [o]).length = (L.take i).length + 1 := by simp
  refine ⟨?_, h.res.snoc hok, fun y hy => ?_, fun k hk' => ?_, ?_, h.keeps.trans (hkPr.mono fun k h => .inl h)⟩
  · rw [el]
    have := hrow.widen (Pr' := fun k => Pr k ∨ Y k ∨ X k) fun k hk' hor => (hrow.own hk').2.1 (by
      rcases hor with h | h | h
      · exact .inl (.inl h)
      · exact .inl (.inr h)
      · exact .inr h)
    rw [show (R ++ [x]).flatMap RS.cells = R.flatMap RS.cells ++ x.cells by simp]
    exact this
  · rcases List.mem_append.1 hy with hy | hy
    · obtain ⟨h1, h2⟩ := h.data y hy
      exact ⟨(h1.keeps (hkPr.mono fun k h => .inr h)).mono fun k h => .inl h, h2⟩
    · rw [List.mem_singleton] at hy
      subst hy
      exact ⟨(hr.keeps (hk5.mono fun k hp => ⟨hX.1 k hp, hXo k hp⟩)).mono fun k h => .inr h, hc⟩
  · rcases hk' with h1 | h1
    · exact Nat.lt_of_lt_of_le (h.inY k h1) hkPr.size
    · exact Nat.lt_of_lt_of_le (hX.1 k h1) hk5.size
  · rw [memB_snoc]
    refine (hm.widen (Pr' := fun k => ((Pr k ∨ (Y k ∨ X k)) ∨ vout'.ownBlock = some k) ∨ vout.ownBlock = some k) fun k hk' hn hor => ?_).kept hk5 (fun k hk' hn => ⟨hk', fun e => hn (.inr e)⟩) |>.widen fun k _ hn hor => hn (.inl hor)
    rcases hor with ((h1 | h1 | h1) | h1) | h1
    · exact hn (.inl (.inl (.inl h1)))
    · exact hn (.inl (.inl (.inr h1)))
    · exact hn (.inr h1)
    · rcases ho with e | e
      · exact hn (.inl (.inr (e ▸ h1)))
      · have hs3 := hW3.size
        rw [e] at h1
        simp only [Option.some.injEq] at h1
        omega
    · exact hn (.inl (.inr h1))

end Go.Proofs.YtkkliejgmgmebaaDoor
