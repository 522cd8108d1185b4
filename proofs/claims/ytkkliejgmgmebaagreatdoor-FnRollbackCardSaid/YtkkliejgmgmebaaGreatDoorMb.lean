/-
  impl.calls over a MemFiler.
-/
import Derived.Test.YtkkliejgmgmebaaGreatDoorM8
namespace Go.Proofs.YtkkliejgmgmebaaGreatDoor
open Go.RowKit

/-- a call of a filer, as it lies in memory -/
structure Op where
  kind : Int
  off : Int
  size : Int
  a : Option Addr
  n : Nat
  c : Nat
  d : List UInt8

/-- one call in memory -/
structure OpAt (Pr : Nat → Prop) (w : World) (b o i : Nat) (x : Op) : Prop where
  c0 : w.cell? ⟨b, o + i * 4, none⟩ = some (.int .i64 x.kind)
  c1 : w.cell? ⟨b, o + i * 4 + 1, none⟩ = some (.int .i64 x.off)
  c2 : w.cell? ⟨b, o + i * 4 + 2, none⟩ = some (.int .i64 x.size)
  c3 : w.cell? ⟨b, o + i * 4 + 3, none⟩ = some (.slice x.a x.n x.c)
  nc : x.n ≤ x.c
  cb : x.c ≤ 9223372036854775807
  rd : Rd Pr w x.a x.n x.d

/-- a list of calls -/
def rdO (Pr : Nat → Prop) (w : World) (a : Option Addr) (L : List Op) : Prop :=
  L = [] ∨ ∃ b o, a = some ⟨b, o, none⟩ ∧ Pr b ∧ ∀ (i : Nat) x, L[i]? = some x → OpAt Pr w b o i x

theorem OpAt.keeps {Pr : Nat → Prop} {w w' : World} {b o i : Nat} {x : Op} (h : OpAt Pr w b o i x) (hb : Pr b) (hk : Keeps Pr w w') : OpAt Pr w' b o i x :=
  ⟨(hk.cell (a := ⟨b, _, none⟩) hb).trans h.c0, (hk.cell (a := ⟨b, _, none⟩) hb).trans h.c1, (hk.cell (a := ⟨b, _, none⟩) hb).trans h.c2, (hk.cell (a := ⟨b, _, none⟩) hb).trans h.c3, h.nc, h.cb, h.rd.keeps hk⟩
theorem OpAt.mono {Pr Pr' : Nat → Prop} {w : World} {b o i : Nat} {x : Op} (h : OpAt Pr w b o i x) (hp : ∀ k, Pr k → Pr' k) : OpAt Pr' w b o i x := ⟨h.c0, h.c1, h.c2, h.c3, h.nc, h.cb, h.rd.mono hp⟩
theorem rdO.keeps {Pr : Nat → Prop} {w w' : World} {a : Option Addr} {L : List Op} (h : rdO Pr w a L) (hk : Keeps Pr w w') : rdO Pr w' a L := by
  rcases h with h0 | ⟨b, o, rfl, hb, hc⟩
  · exact .inl h0
  · exact .inr ⟨b, o, rfl, hb, fun i x hx => (hc i x hx).keeps hb hk⟩
theorem rdO.mono {Pr Pr' : Nat → Prop} {w : World} {a : Option Addr} {L : List Op} (h : rdO Pr w a L) (hp : ∀ k, Pr k → Pr' k) : rdO Pr' w a L := by
  rcases h with h0 | ⟨b, o, rfl, hb, hc⟩
  · exact .inl h0
  · exact .inr ⟨b, o, rfl, hp b hb, fun i x hx => (hc i x hx).mono hp⟩

/-- the bytes behind calls -/
def memB (bs : List UInt8) (L : List Op) : List UInt8 := L.foldl (fun b o => mstep b o.kind o.off o.size o.d) bs

theorem memB_snoc (bs : List UInt8) (L : List Op) (o : Op) : memB bs (L ++ [o]) = mstep (memB bs L) o.kind o.off o.size o.d := by simp [memB]

theorem mstep_len (bs : List UInt8) (o : Op) (len : Nat) (h : fitsB len o.kind o.off o.size o.n = true) (hd : o.d.length = o.n) : (mstep bs o.kind o.off o.size o.d).length ≤ max bs.length 262144 := by
  unfold mstep
  split
  · rename_i k0
    rw [k0] at h
    obtain ⟨h1, h2, h3, h4⟩ := fitsB_0 h
    rw [wrB_length _ _ _ (by intro e; rw [e] at hd; simp at hd; omega)]
    omega
  · split
    · rename_i k0 k2
      rw [k2] at h
      obtain ⟨h1, h2⟩ := fitsB_2 h
      unfold resB
      rw [List.length_append, List.length_take, List.length_replicate]
      omega
    · omega

/-- every call is one of which something is said -/
def fitsAll (L : List Op) : Prop := ∀ o ∈ L, ∃ len, fitsB len o.kind o.off o.size o.n = true

theorem memB_len : ∀ (L : List Op) (bs : List UInt8), fitsAll L → (∀ o ∈ L, o.d.length = o.n) → (memB bs L).length ≤ max bs.length 262144
  | [], bs, _, _ => by show bs.length ≤ _; omega
  | o :: L, bs, hf, hd => by
    have h1 := memB_len L (mstep bs o.kind o.off o.size o.d) (fun x hx => hf x (List.mem_cons_of_mem _ hx)) (fun x hx => hd x (List.mem_cons_of_mem _ hx))
    obtain ⟨len, hl⟩ := hf o (List.mem_cons_self ..)
    have h2 := mstep_len bs o len hl (hd o (List.mem_cons_self ..))
    show (memB (mstep bs o.kind o.off o.size o.d) L).length ≤ _
    omega

/-- a result with the place of its bytes -/
structure RS where
  r : Res
  a : Option Addr
  c : Nat

abbrev RS.cells (x : RS) : List Value := [.int .i64 x.r.n, .slice x.a x.r.d.length x.c, .int .i64 x.r.sz, .int .i64 x.r.err]

/-- these are the results of these calls -/
def Results (bs : List UInt8) (L : List Op) (R : List RS) : Prop := R.length = L.length ∧ ∀ (j : Nat) (x : RS) (o : Op), R[j]? = some x → L[j]? = some o → resOk (memB bs (L.take j)) o.kind o.off o.size o.n x.r

theorem Results.snoc {bs : List UInt8} {L : List Op} {R : List RS} {o : Op} {x : RS} (h : Results bs L R) (hx : resOk (memB bs L) o.kind o.off o.size o.n x.r) : Results bs (L ++ [o]) (R ++ [x]) := by
  refine ⟨by simp [h.1], fun j y p hy hp => ?_⟩
  have hj : j < L.length + 1 := by have := (List.getElem?_eq_some_iff.1 hp).1; simpa using this
  by_cases hlt : j < L.length
  · rw [List.getElem?_append_left (by rw [h.1]; exact hlt)] at hy
    rw [List.getElem?_append_left hlt] at hp
    rw [List.take_append_of_le_length (by omega)]
    exact h.2 j y p hy hp
  · obtain rfl : j = L.length := by omega
    rw [List.getElem?_append_right (by rw [h.1]; exact Nat.le_refl _), h.1, Nat.sub_self] at hy
    rw [List.getElem?_append_right (Nat.le_refl _), Nat.sub_self] at hp
    simp only [List.getElem?_cons_zero, Option.some.injEq] at hy hp
    subst hy hp
    rw [List.take_left']
    · exact hx
    · rfl

noncomputable def body20 : Code := ((Tryz.f17.body.bind firstLoop).getD .skip)

theorem infoResult : (Tryz.prog.info? 60).map (fun i => (i.zero, i.size, i.bytes)) = some (some (.agg #[.int .i64 0, .slice none 0 0, .int .i64 0, .int .i64 0]), 4, 48) := by kernel_rfl

structure frm20p (s0 s5 s8 s9 s10 : Value) (a : Act) : Prop where
  df : a.defers = []
  sz : a.tmps.size = 22
  h0 : a.tmps.getD 0 undef = s0
  h5 : a.tmps.getD 5 undef = s5
  h8 : a.tmps.getD 8 undef = s8
  h9 : a.tmps.getD 9 undef = s9
  h10 : a.tmps.getD 10 undef = s10
set_option maxRecDepth 100000 in
theorem frm20 {s0 s5 s8 s9 s10 : Value} {a : Act} (h : frm20p s0 s5 s8 s9 s10 a) : ∃ u : Nat → Value, a = ⟨#[s0, u 1, u 2, u 3, u 4, s5, u 6, u 7, s8, s9, s10, u 11, u 12, u 13, u 14, u 15, u 16, u 17, u 18, u 19, u 20, u 21], []⟩ := by
  obtain ⟨F, df⟩ := a
  obtain ⟨rfl, hs, rfl, rfl, rfl, rfl, rfl⟩ := h
  refine ⟨fun i => F.getD i undef, ?_⟩
  have e := open_frame F
  rw [hs] at e
  exact congrArg (Act.mk · []) e

end Go.Proofs.YtkkliejgmgmebaaGreatDoor

namespace Go.Proofs.YtkkliejgmgmebaaGreatDoor
open Go.RowKit

theorem wpList_append_row {P : Program} {ops : Array Oper} {rest : List Oper} {o : Oper} {a : Act} {Q : Exit → Act → World → Prop} {w : World} (hgd : o.guard = none) (s x : Operand) (t : TypeId)
    (ho : o.op = .call { callee := .builtin .append, args := #[s, x], argTypes := #[t, t] })
    {Pr : Nat → Prop} {e : TypeId} {size : Nat} {v : Value} {n : Nat} {xs : List Value} (hnew : ¬ Pr w.heap.size) (i : TypeInfo) (z : Value) (bytes : Nat) (ht : P.underlying t = some (.slice e)) (hi : P.info? e = some i) (hz : i.zero = some z)
    (hsize : i.size = size) (hby : i.bytes = bytes) (hzs : z.cells.size = size) (hrow : Row Pr w e size v n xs) (hs : a.eval s = v) (ad : Addr) (m c : Nat) (hx : a.eval x = .slice (some ad) m c) (news : List Value) (hl : news.length = m * size)
    (hnews : ∀ j u, news[j]? = some u → w.cell? (ad.add j) = some u) (h1 : ∀ u ∈ news, u.oneCell' = true) (h63 : n + m ≤ maxLen) (hbytes : (n + m) * bytes ≤ 140737488355328)
    (h : ∀ v' w', Row Pr w' e size v' (n + m) (xs ++ news) → w.grownBy w' v.ownBlock → (v'.ownBlock = v.ownBlock ∨ v'.ownBlock = some w.heap.size) → wpList P ops Q rest (a.put o.dst v') w') : wpList P ops Q (o :: rest) a w := by
  refine wpList_plain hgd fun K hK => ?_
  obtain ⟨v', w', hrun, h2, h3, h4⟩ := run_append_row (P := P) hnew t o.type i z bytes ht hi hz hsize hby hzs hrow ad m c news hl hnews h1 h63 hbytes
  unfold Oper.wp
  simp [execOp, ho, resolve, invoke, builtin, hs, hx, hrun, Result.andThen]
  exact hK _ _ (h v' w' h2 h3 h4)

theorem cell_newRow (W : World) (t : TypeId) (cs : List Value) (j : Nat) : (W.alloc (.cells cs.toArray t)).cell? ((⟨W.heap.size, 0, none⟩ : Addr).add j) = cs[j]? := by
  have ha : (⟨W.heap.size, 0, none⟩ : Addr).add j = ⟨W.heap.size, j, none⟩ := by unfold Addr.add; split <;> simp_all
  rw [ha, cell_of_row _ _ j cs.toArray t (0, 0) (heap_alloc_new W _)]
  simp

/-- what impl.calls has done: the results, where they lie, the file's bytes -/
structure Done (Pr : Nat → Prop) (w0 w : World) (gm gz : Nat) (bs0 : List UInt8) (L : List Op) (vout : Value) (Y : Nat → Prop) (R : List RS) (vm : Value) : Prop where
  row : Row (fun k => Pr k ∨ Y k) w 60 4 vout L.length (R.flatMap RS.cells)
  res : Results bs0 L R
  data : ∀ x ∈ R, Rd Y w x.a x.r.d.length x.r.d ∧ x.r.d.length ≤ x.c
  inY : Inw Y w
  mem : MemIs (fun k => (Pr k ∨ Y k) ∨ vout.ownBlock = some k) w gm gz vm (memB bs0 L)
  keeps : Keeps Pr w0 w

theorem Done.inw {Pr Y : Nat → Prop} {w0 w : World} {gm gz : Nat} {bs0 : List UInt8} {L : List Op} {vout vm : Value} {R : List RS} (h : Done Pr w0 w gm gz bs0 L vout Y R vm) (hin : Inw Pr w0) : Inw (fun k => (Pr k ∨ Y k) ∨ vout.ownBlock = some k) w := fun k hk => by
  rcases hk with (h1 | h1) | h1
  · exact h.keeps.inw hin k h1
  · exact h.inY k h1
  · exact (h.row.own h1).1

theorem take_snoc {α : Type} {L : List α} {i : Nat} {x : α} (h : L[i]? = some x) : L.take (i + 1) = L.take i ++ [x] := by
  obtain ⟨hl, e⟩ := List.getElem?_eq_some_iff.1 h
  rw [List.take_succ_eq_append_getElem hl, e]

/-- one round: a call, and its result appended -/
theorem Done.step {Pr Y X : Nat → Prop} {w0 w W1 w2 W3 w5 : World} {gm gz i : Nat} {bs0 : List UInt8} {L : List Op} {vout vm v' vout' : Value} {R : List RS} {o : Op} {x : RS} (h : Done Pr w0 w gm gz bs0 (L.take i) vout Y R vm) (hin : Inw Pr w0) (hx : L[i]? = some o)
    (hW1 : Keeps (Old w) w W1) (hX : Inw X w2 ∧ ∀ k, X k → W1.heap.size ≤ k) (hr : Rd X w2 x.a x.r.d.length x.r.d) (hc : x.r.d.length ≤ x.c) (hok : resOk (memB bs0 (L.take i)) o.kind o.off o.size o.n x.r)
    (hm : MemIs (fun k => ((Pr k ∨ Y k) ∨ vout.ownBlock = some k) ∨ X k) w2 gm gz v' (mstep (memB bs0 (L.take i)) o.kind o.off o.size o.d)) (hk : Keeps (fun k => (Pr k ∨ Y k) ∨ vout.ownBlock = some k) W1 w2)
    (hW3 : Keeps (Old w2) w2 W3) (hrow : Row (fun k => (Pr k ∨ Y k) ∨ X k) w5 60 4 vout' ((L.take i).length + 1) (R.flatMap RS.cells ++ x.cells)) (hg : W3.grownBy w5 vout.ownBlock) (ho : vout'.ownBlock = vout.ownBlock ∨ vout'.ownBlock = some W3.heap.size) :
    Done Pr w0 w5 gm gz bs0 (L.take (i + 1)) vout' (fun k => Y k ∨ X k) (R ++ [x]) v' := by
  have hinw := h.inw hin
  have hown : ∀ k, vout.ownBlock = some k → k < w.heap.size := fun k hk => (h.row.own hk).1
  have hXo : ∀ k, X k → vout.ownBlock ≠ some k := fun k hk e => by have := hX.2 k hk; have := hown k e; have := hW1.size; omega
  have hsz : w.heap.size ≤ w2.heap.size := Nat.le_trans hW1.size hk.size
  -- from w2 on all that is kept but the row
  have hk5 : Keeps (fun k => k < w2.heap.size ∧ vout.ownBlock ≠ some k) w2 w5 := (hW3.mono fun k h => h.1).trans (Keeps.grown (fun k h => Nat.lt_of_lt_of_le h.1 hW3.size) hg fun k e h => h.2 e)
  have hkPr : Keeps (fun k => Pr k ∨ Y k) w w5 := ((hW1.mono fun k hp => hinw k (.inl hp)).trans (hk.mono fun k hp => .inl hp)).trans (hk5.mono fun k hp => ⟨Nat.lt_of_lt_of_le (hinw k (.inl hp)) hsz, fun e => (h.row.own e).2.1 hp⟩)
  rw [take_snoc hx]
  have el : (L.take i ++ [o]).length = (L.take i).length + 1 := by simp
  refine ⟨?_, h.res.snoc hok, fun y hy => ?_, fun k hk' => ?_, ?_, h.keeps.trans (hkPr.mono fun k h => .inl h)⟩
  · rw [el]
    have := hrow.widen (Pr' := fun k => Pr k ∨ Y k ∨ X k) fun k hk' hor => (hrow.own hk').2.1 (by
      rcases hor with h | h | h
      · exact .inl (.inl h)
      · exact .inl (.inr h)
      · exact .inr h)
    rw [show (R ++ [x]).flatMap RS.cells = R.flatMap RS.cells ++ x.cells by simp]
    exact this
  · rcases List.mem_append.1 hy with hy | hy
    · obtain ⟨h1, h2⟩ := h.data y hy
      exact ⟨(h1.keeps (hkPr.mono fun k h => .inr h)).mono fun k h => .inl h, h2⟩
    · rw [List.mem_singleton] at hy
      subst hy
      exact ⟨(hr.keeps (hk5.mono fun k hp => ⟨hX.1 k hp, hXo k hp⟩)).mono fun k h => .inr h, hc⟩
  · rcases hk' with h1 | h1
    · exact Nat.lt_of_lt_of_le (h.inY k h1) hkPr.size
    · exact Nat.lt_of_lt_of_le (hX.1 k h1) hk5.size
  · rw [memB_snoc]
    refine (hm.widen (Pr' := fun k => ((Pr k ∨ (Y k ∨ X k)) ∨ vout'.ownBlock = some k) ∨ vout.ownBlock = some k) fun k hk' hn hor => ?_).kept hk5 (fun k hk' hn => ⟨hk', fun e => hn (.inr e)⟩) |>.widen fun k _ hn hor => hn (.inl hor)
    rcases hor with ((h1 | h1 | h1) | h1) | h1
    · exact hn (.inl (.inl (.inl h1)))
    · exact hn (.inl (.inl (.inr h1)))
    · exact hn (.inr h1)
    · rcases ho with e | e
      · exact hn (.inl (.inr (e ▸ h1)))
      · have hs3 := hW3.size
        rw [e] at h1
        simp only [Option.some.injEq] at h1
        omega
    · exact hn (.inl (.inr h1))

end Go.Proofs.YtkkliejgmgmebaaGreatDoor

namespace Go.Proofs.YtkkliejgmgmebaaGreatDoor
open Go.RowKit

set_option maxRecDepth 100000 in
set_option maxHeartbeats 4000000 in
theorem icalls_loop (Q0 : Exit → Act → World → Prop) (Pr : Nat → Prop) (w : World) (gm gz : Nat) (bs : List UInt8) (L : List Op) (a : Option Addr) (n c : Nat) (va vb : Addr) (v : Value) (A : Act)
    (hin : Inw Pr w) (hL : L.length = n) (hn : n ≤ 1000000) (hnc : n ≤ c) (hrd : rdO Pr w a L) (hV : Vars Pr w va vb) (hfit : fitsAll L) (hbs : bs.length ≤ 262144) (hm : MemIs Pr w gm gz v bs)
    (hA : frm20p (.iface 68 (.pointer (some ⟨gm, 0, none⟩))) (.slice none 0 0) (.slice a n c) (.int .i64 (n : Int)) (.int .i64 ((0 : Nat) : Int)) A)
    (hexit : ∀ a' w' vout Y R vm, frm20p (.iface 68 (.pointer (some ⟨gm, 0, none⟩))) vout (.slice a n c) (.int .i64 (n : Int)) (.int .i64 (n : Int)) a' → Done Pr w w' gm gz bs L vout Y R vm → Q0 (.exit 0) a' w') :
    Code.wp Tryz.prog (Code.loop body20) Q0 A w := by
  have hd : ∀ o ∈ L, o.d.length = o.n := fun o ho => by
    rcases hrd with h0 | ⟨b, off, -, -, hc⟩
    · subst h0; cases ho
    · obtain ⟨i, hi⟩ := List.getElem?_of_mem ho
      exact (hc i o hi).rd.1
  refine wp_loop_ghost (fun k a' w' => ∃ (i : Nat) (vout : Value) (Y : Nat → Prop) (R : List RS) (vm : Value), k = n - i ∧ i ≤ n ∧ frm20p (.iface 68 (.pointer (some ⟨gm, 0, none⟩))) vout (.slice a n c) (.int .i64 (n : Int)) (.int .i64 (i : Int)) a' ∧ Done Pr w w' gm gz bs (L.take i) vout Y R vm) n
    ⟨0, .slice none 0 0, fun _ => False, [], v, rfl, Nat.zero_le _, hA, ?_⟩ ?_
  · refine ⟨by rw [List.take_zero]; exact Row.nil _ _ _ _, ⟨by simp, fun j x o hx _ => (by cases hx)⟩, fun x hx => (by cases hx), fun _ h => h.elim, ?_, Keeps.refl _ _⟩
    rw [List.take_zero]
    exact hm.widen fun k _ hn hor => by
      rcases hor with (h | h) | h
      · exact hn h
      · exact h
      · cases h
  rintro k a' w' ⟨i, vout, Y, R, vm, rfl, hi, ha, hD⟩
  obtain ⟨u, rfl⟩ := frm20 ha
  clear ha hA
  have HE := Lib.hid hexit
  have HD := Lib.hid hD
  conv => arg 2; whnf
  by_cases hlt : i < n
  · obtain ⟨o, ho⟩ : ∃ o, L[i]? = some o := ⟨_, List.getElem?_eq_getElem (by omega)⟩
    rcases hrd with h0 | ⟨b, off, rfl, hb, hc⟩
    · subst h0; cases ho
    have hop := (hc i o ho).keeps hb hD.keeps
    have x0 := hop.c0
    have x1 := hop.c1
    have x2 := hop.c2
    have x3 := hop.c3
    have hlen := memB_len (L.take i) bs (fun x hx => hfit x (List.mem_of_mem_take hx)) (fun x hx => hd x (List.mem_of_mem_take hx))
    obtain ⟨len, hfl⟩ := hfit o (List.mem_of_getElem? ho)
    have hlt2 : (L.take i).length = i := by rw [List.length_take]; omega
    have hinw := hD.inw hin
    -- the call, in the world with the box
    have hcall := fun (W1 : World) (hW1 : Keeps (Old w') w' W1) => call_mem (fun k => (Pr k ∨ Y k) ∨ vout.ownBlock = some k) W1 gm gz vm (memB bs (L.take i)) o.d o.kind o.off o.size o.a o.n o.c (hinw.mono hW1.size) (hD.mem.kept hW1 fun k hk _ => hk)
      ((hop.rd.keeps (hW1.mono fun k hp => hinw k (.inl (.inl hp)))).mono fun k h => .inl (.inl h)) va vb (((hV.keeps hD.keeps).keeps (hW1.mono fun k hp => hinw k (.inl (.inl hp)))).mono fun k h => .inl (.inl h)) len hfl (by omega)
    have hstep := fun (W1 w2 W3 w5 : World) (X : Nat → Prop) (v' vout' : Value) (x : RS) => Done.step (W1 := W1) (w2 := w2) (W3 := W3) (w5 := w5) (X := X) (v' := v') (vout' := vout') (x := x) hD hin ho
    have hrow := hD.row
    rw [hlt2] at hrow
    have HC := Lib.hid hcall
    have HS := Lib.hid hstep
    have HR := Lib.hid hrow
    have HIW := Lib.hid hinw
    have HLT := Lib.hid hlt2
    obtain ⟨av, cv, rfl, -⟩ := hrow.slice
    obtain ⟨i0, hi0, hz0, hz1, hz2⟩ := info_parts infoResult
    clear hc hfit hd hV hm hop hlen hfl hinw hcall hstep hD hexit hrow hlt2 ho
    obtain ⟨kd, of, sz, oa, on, oc, od⟩ := o
    simp only at x0 x1 x2 x3
    (repeat (first | go_values | go_skip | go_guarded | go_step | go_upon))
    have hK1 : Keeps (Old w') w' (w'.alloc (.cells #[.int .i64 kd, .int .i64 of, .int .i64 sz, .slice oa on oc] 42)) := Keeps.alloc (fun _ h => h) _
    refine (HC.out _ hK1).mono ?_
    rintro e w2 hcp
    obtain ⟨X, rv, r, v', rfl, hX, ⟨ra, rc, rfl, hrc, hrd2⟩, hok, hm2, hk2⟩ := hcp
    have hsz : w'.heap.size < w2.heap.size := Nat.lt_of_lt_of_le (by simp) hk2.size
    have hw2 : Inw (fun k => (Pr k ∨ Y k) ∨ X k) w2 := fun k hk => hk.elim (fun h => Nat.lt_of_lt_of_le (HIW.out k (.inl h)) (Nat.le_of_lt hsz)) (hX.1 k)
    have hrow2 : Row (fun k => (Pr k ∨ Y k) ∨ X k) w2 60 4 (.slice av i cv) i (R.flatMap RS.cells) := by
      have hr0 := (HR.out.kept (w' := w2) fun k hk => (hk2.block k (.inr hk)).trans (heap_alloc_lt _ _ (HR.out.own hk).1))
      exact hr0.widen fun k hk hor => hor.elim (HR.out.own hk).2.1 fun h => by have := hX.2 k h; have := (HR.out.own hk).1; simp at *; omega
    have hst := fun (w5 : World) (vout' : Value) (hrow5 : Row (fun k => (Pr k ∨ Y k) ∨ X k) w5 60 4 vout' (i + 1) (R.flatMap RS.cells ++ RS.cells ⟨r, ra, rc⟩)) (hg : (w2.alloc (.cells #[.int .i64 r.n, .slice ra r.d.length rc, .int .i64 r.sz, .int .i64 r.err] 60)).grownBy w5 (Value.slice av i cv).ownBlock) (ho : vout'.ownBlock = (Value.slice av i cv).ownBlock ∨ vout'.ownBlock = some (w2.alloc (.cells #[.int .i64 r.n, .slice ra r.d.length rc, .int .i64 r.sz, .int .i64 r.err] 60)).heap.size) =>
      HS.out _ w2 (w2.alloc (.cells #[.int .i64 r.n, .slice ra r.d.length rc, .int .i64 r.sz, .int .i64 r.err] 60)) w5 X v' vout' ⟨r, ra, rc⟩ hK1 hX hrd2 hrc hok hm2 hk2 (Keeps.alloc (fun _ h => h) _) (by rw [HLT.out]; exact hrow5) hg ho
    have HST := Lib.hid hst
    have HW2 := Lib.hid hw2
    have HR2 := Lib.hid hrow2
    clear hst hw2 hrow2 hX hrd2 hrc hok hm2 hk2 hK1 hsz HC
    dsimp only
    (repeat (first | (at_builtin; refine wpList_append_row rfl (.tmp 14) (.tmp 18) 28 rfl (Pr := fun k => (Pr k ∨ Y k) ∨ X k) (e := 60) (size := 4) (v := .slice av i cv) (n := i) (xs := R.flatMap RS.cells) ?cn i0 (.agg #[.int .i64 0, .slice none 0 0, .int .i64 0, .int .i64 0]) 48 Tryz.underlying28 hi0 hz0 hz1 hz2 rfl ?cr rfl ⟨w2.heap.size, 0, none⟩ 1 1 rfl (RS.cells ⟨r, ra, rc⟩) rfl ?cs ?c1 ?c3 ?c4 ?_) | go_values | go_skip | go_guarded | go_step | go_upon))
    case cn => exact (HW2.out.mono (by simp)).new
    case cr => exact HR2.out.alloc _
    case cs => exact fun j u hj => (cell_newRow w2 60 (RS.cells ⟨r, ra, rc⟩) j).trans hj
    case c1 => intro u hu; simp at hu; rcases hu with rfl | rfl | rfl | rfl <;> rfl
    case c3 => unfold maxLen; omega
    case c4 => omega
    intro v5 w5 hrow5 hg5 ho5
    have hD5 := HST.out w5 v5 hrow5 hg5 ho5
    obtain ⟨av5, cv5, rfl, -⟩ := hrow5.slice
    have HD5 := Lib.hid hD5
    clear hrow5 hg5 ho5 hD5
    (repeat (first | go_values | go_skip | go_guarded | go_step | go_upon))
    exact ⟨n - (i + 1), by omega, i + 1, _, _, _, _, rfl, by omega, ⟨rfl, rfl, rfl, rfl, rfl, rfl, by go_num⟩, HD5.out⟩
  · obtain rfl : i = n := by omega
    have hD' := hD
    rw [List.take_of_length_le (by omega)] at hD'
    have HD2 := Lib.hid hD'
    clear hrd hfit hd hV hm hD hD' HD hexit
    (repeat (first | go_values | go_skip | go_guarded | go_step | go_upon))
    exact HE.out _ _ _ _ _ _ ⟨rfl, rfl, rfl, rfl, rfl, rfl, rfl⟩ HD2.out

end Go.Proofs.YtkkliejgmgmebaaGreatDoor

namespace Go.Proofs.YtkkliejgmgmebaaGreatDoor
open Go.RowKit

theorem icalls_mem (Pr : Nat → Prop) (w : World) (gm gz : Nat) (bs : List UInt8) (L : List Op) (a : Option Addr) (n c : Nat) (va vb : Addr) (v : Value)
    (hin : Inw Pr w) (hL : L.length = n) (hn : n ≤ 1000000) (hnc : n ≤ c) (hrd : rdO Pr w a L) (hV : Vars Pr w va vb) (hfit : fitsAll L) (hbs : bs.length ≤ 262144) (hm : MemIs Pr w gm gz v bs) :
    Calls Tryz.prog 17 #[.iface 68 (.pointer (some ⟨gm, 0, none⟩)), .slice a n c] w fun e w' => ∃ vout Y R vm, e = .returned vout ∧ Done Pr w w' gm gz bs L vout Y R vm := by
  have HL := Lib.hid (fun Q0 A hA hx => icalls_loop Q0 Pr w gm gz bs L a n c va vb v A hin hL hn hnc hrd hV hfit hbs hm hA hx)
  clear hin hL hrd hV hfit hbs hm
  go_enter Tryz.func17, Tryz.ntmps17
  (repeat (first | go_values | go_skip | go_guarded | go_step | go_upon))
  refine HL.out _ _ ⟨rfl, rfl, rfl, rfl, rfl, rfl, rfl⟩ ?_
  intro a' w' vout Y R vm ha hD
  obtain ⟨u, rfl⟩ := frm20 ha
  have HD := Lib.hid hD
  obtain ⟨av, cv, rfl, -⟩ := hD.row.slice
  clear hD ha
  simp only [Exit.inBlock, ↓reduceIte]
  (repeat (first | go_values | go_skip | go_guarded | go_step | go_upon))
  go_ret
  exact ⟨_, Y, R, vm, rfl, HD.out⟩

/-- one result in memory -/
structure ResAt (w : World) (b o i : Nat) (x : RS) : Prop where
  c0 : w.cell? ⟨b, o + i * 4, none⟩ = some (.int .i64 x.r.n)
  c1 : w.cell? ⟨b, o + i * 4 + 1, none⟩ = some (.slice x.a x.r.d.length x.c)
  c2 : w.cell? ⟨b, o + i * 4 + 2, none⟩ = some (.int .i64 x.r.sz)
  c3 : w.cell? ⟨b, o + i * 4 + 3, none⟩ = some (.int .i64 x.r.err)
  nc : x.r.d.length ≤ x.c
  rd : Rd (Old w) w x.a x.r.d.length x.r.d

/-- a list of results -/
def rdR (w : World) (a : Option Addr) (R : List RS) : Prop :=
  R = [] ∨ ∃ b o, a = some ⟨b, o, none⟩ ∧ b < w.heap.size ∧ ∀ (i : Nat) x, R[i]? = some x → ResAt w b o i x

theorem ResAt.keeps {w w' : World} {b o i : Nat} {x : RS} (h : ResAt w b o i x) (hb : b < w.heap.size) (hk : Keeps (Old w) w w') : ResAt w' b o i x :=
  ⟨(hk.cell (a := ⟨b, _, none⟩) hb).trans h.c0, (hk.cell (a := ⟨b, _, none⟩) hb).trans h.c1, (hk.cell (a := ⟨b, _, none⟩) hb).trans h.c2, (hk.cell (a := ⟨b, _, none⟩) hb).trans h.c3, h.nc, (h.rd.keeps hk).mono fun _ h => Nat.lt_of_lt_of_le h hk.size⟩
theorem rdR.keeps {w w' : World} {a : Option Addr} {R : List RS} (h : rdR w a R) (hk : Keeps (Old w) w w') : rdR w' a R := by
  rcases h with h0 | ⟨b, o, rfl, hb, hc⟩
  · exact .inl h0
  · exact .inr ⟨b, o, rfl, Nat.lt_of_lt_of_le hb hk.size, fun i x hx => (hc i x hx).keeps hb hk⟩

theorem flat_at : ∀ (R : List RS) (i : Nat) (x : RS) (j : Nat), j < 4 → R[i]? = some x → (R.flatMap RS.cells)[i * 4 + j]? = x.cells[j]?
  | y :: R, 0, x, j, hj, h => by
    simp only [List.getElem?_cons_zero, Option.some.injEq] at h
    subst h
    rw [List.flatMap_cons, Nat.zero_mul, Nat.zero_add, List.getElem?_append_left (by simpa using hj)]
  | y :: R, i + 1, x, j, hj, h => by
    have := flat_at R i x j hj (by simpa using h)
    rw [List.flatMap_cons, List.getElem?_append_right (by simp; omega), ← this]
    congr 1
    simp; omega

/-- the results read -/
theorem rdR_of {Pr : Nat → Prop} {w : World} {a : Option Addr} {n c : Nat} {R : List RS} (h : Row Pr w 60 4 (.slice a n c) n (R.flatMap RS.cells)) (hl : R.length = n) (hd : ∀ x ∈ R, Rd (Old w) w x.a x.r.d.length x.r.d ∧ x.r.d.length ≤ x.c) : rdR w a R := by
  rcases h.2 with ⟨h0, h1⟩ | ⟨g, cap, cur, hv, -, hg, -⟩
  · subst h1
    exact .inl (List.eq_nil_of_length_eq_zero hl)
  · simp only [Value.slice.injEq, true_and] at hv
    obtain ⟨rfl, rfl⟩ := hv
    refine .inr ⟨g, 0, rfl, lt_of_heap hg, fun i x hx => ?_⟩
    have hi : i < n := by have := (List.getElem?_eq_some_iff.1 hx).1; omega
    obtain ⟨d1, d2⟩ := hd x (List.mem_of_getElem? hx)
    refine ⟨?_, ?_, ?_, ?_, d2, d1⟩
    · rw [Nat.zero_add, h.cellAt _ (by omega)]; exact flat_at R i x 0 (by omega) hx
    · rw [Nat.zero_add, h.cellAt _ (by omega)]; exact flat_at R i x 1 (by omega) hx
    · rw [Nat.zero_add, h.cellAt _ (by omega)]; exact flat_at R i x 2 (by omega) hx
    · rw [Nat.zero_add, h.cellAt _ (by omega)]; exact flat_at R i x 3 (by omega) hx

theorem newZZ_any (w : World) (p : Option Addr) : Calls Tryz.prog 27 #[.pointer p] w fun e w' => e = .returned (.pointer (some ⟨w.heap.size, 0, none⟩)) ∧ w' = w.alloc (.cells #[.pointer p, .int .i64 0] 87) := by
  go_enter Tryz.func27, Tryz.ntmps27
  (repeat (first | go_values | go_skip | go_guarded | go_step | go_upon))
  go_ret
  exact ⟨rfl, rfl⟩

/-- what impl.MemFile leaves -/
def MfPost (w : World) (bs : List UInt8) (L : List Op) (e : Ending) (w' : World) : Prop :=
  ∃ a1 c1 a2 c2 R, e = .returned (.tuple #[.slice a1 L.length c1, .slice a2 (memB bs L).length c2]) ∧ rdR w' a1 R ∧ Results bs L R ∧ Rd (Old w') w' a2 (memB bs L).length (memB bs L) ∧ Below w.heap.size w w' ∧ L.length ≤ c1 ∧ (memB bs L).length ≤ c2

set_option maxRecDepth 100000 in
set_option maxHeartbeats 4000000 in
theorem memFile_any (w : World) (bs : List UInt8) (L : List Op) (sa : Option Addr) (sn sc : Nat) (a : Option Addr) (n c : Nat) (va vb : Addr)
    (hs : Rd (Old w) w sa sn bs) (hL : L.length = n) (hn : n ≤ 1000000) (hnc : n ≤ c) (hrd : rdO (Old w) w a L) (hV : Vars (Old w) w va vb) (hfit : fitsAll L) (hbs : bs.length ≤ 262144) :
    Calls Tryz.prog 20 #[.slice sa sn sc, .slice a n c] w (MfPost w bs L) := by
  have hsn := hs.1
  have CL := Lib.hid (clone_any (Old w) w sa sn sc bs (fun _ h => h) hs (by omega))
  have HRD := Lib.hid hrd
  have HV := Lib.hid hV
  have HF := Lib.hid hfit
  have HLN := Lib.hid hL
  have HSN := Lib.hid hsn
  clear hs hrd hV hfit hL hsn
  go_enter Tryz.func20, Tryz.ntmps20
  (repeat (first | go_values | go_skip | go_guarded | go_step | go_upon))
  refine CL.out.mono ?_
  rintro e w1 ⟨v, rfl, hrow, hk1, hown, -⟩
  obtain ⟨av, cv, rfl, -⟩ := hrow.slice
  have HROW := Lib.hid hrow
  have HK1 := Lib.hid hk1
  have HO := Lib.hid hown
  clear hrow hk1 hown CL
  dsimp only
  (repeat (first | go_values | go_skip | go_guarded | go_step | go_upon))
  refine (newZZ_any _ _).mono ?_
  rintro e w2 ⟨rfl, rfl⟩
  have hs1 := HK1.out.size
  have hm : MemIs (Old w) ((w1.alloc (.cells #[.slice av sn cv, .int .i64 0, .pointer none, .bool false] 55)).alloc (.cells #[.pointer (some ⟨w1.heap.size, 0, none⟩), .int .i64 0] 87)) (w1.heap.size + 1) w1.heap.size (.slice av sn cv) bs := by
    refine ⟨⟨0, by omega, by omega, heap_alloc2_new _ _ _⟩, heap_alloc2_old _ _ _, fun h => ?_, fun h => ?_, ?_⟩
    · have : w1.heap.size + 1 < w.heap.size := h; omega
    · have : w1.heap.size < w.heap.size := h; omega
    · rw [HSN.out]; exact (HROW.out.alloc _).alloc _
  have hk2 : Keeps (Old w) w ((w1.alloc (.cells #[.slice av sn cv, .int .i64 0, .pointer none, .bool false] 55)).alloc (.cells #[.pointer (some ⟨w1.heap.size, 0, none⟩), .int .i64 0] 87)) :=
    (HK1.out.trans (Keeps.alloc (fun k (h : k < w.heap.size) => by omega) _)).trans (Keeps.alloc (fun k (h : k < w.heap.size) => by simp; omega) _)
  have hsz : (w1.alloc (.cells #[.slice av sn cv, .int .i64 0, .pointer none, .bool false] 55)).heap.size = w1.heap.size + 1 := by simp
  rw [hsz]
  generalize ((w1.alloc (.cells #[.slice av sn cv, .int .i64 0, .pointer none, .bool false] 55)).alloc (.cells #[.pointer (some ⟨w1.heap.size, 0, none⟩), .int .i64 0] 87)) = W2 at *
  have HC := Lib.hid (icalls_mem (Old w) W2 (w1.heap.size + 1) w1.heap.size bs L a n c va vb _ (fun k h => Nat.lt_of_lt_of_le h hk2.size) HLN.out hn hnc (HRD.out.keeps hk2) (HV.out.keeps hk2) HF.out hbs hm)
  have HK2 := Lib.hid hk2
  clear hm hk2 hsz hs1
  dsimp only
  (repeat (first | go_values | go_skip | go_guarded | go_step | go_upon))
  refine HC.out.mono ?_
  rintro e w3 ⟨vout, Y, R, vm, rfl, hD⟩
  obtain ⟨b0, -⟩ := cells_at hD.mem.fz
  have x0 := b0 0
  simp only [List.getElem?_toArray, List.getElem?_cons_zero] at x0
  obtain ⟨ao, co, rfl, hlo, -⟩ := hD.row.slice
  obtain ⟨am, cm, rfl, hlm, -⟩ := hD.mem.row.slice
  have HD := Lib.hid hD
  clear hD b0 HC
  dsimp only
  (repeat (first | go_values | go_skip | go_guarded | go_step | go_upon))
  go_quiet (fail)
  (repeat (first | go_values | go_skip | go_guarded | go_step | go_upon))
  go_ret2
  have hD := HD.out
  have hkq := below_keeps (below_drewN w3 nq w3.heap.size)
  exact ⟨ao, co, am, cm, R, rfl, (rdR_of hD.row hD.res.1 fun x hx => ⟨(hD.data x hx).1.mono hD.inY, (hD.data x hx).2⟩).keeps hkq, hD.res, hD.mem.row.rv.rd.keeps hkq, ((HK2.out.trans hD.keeps).below (B := w.heap.size) fun _ h => h).trans (below_drewN _ _ _), hlo, hlm⟩

end Go.Proofs.YtkkliejgmgmebaaGreatDoor
