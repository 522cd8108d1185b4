/-
  impl.calls over an InnerFiler: its loop.
-/
import Derived.Test.YtkkliejgmgmebaaDoorN3
import Derived.Test.YtkkliejgmgmebaaDoorM11
namespace Go.Proofs.YtkkliejgmgmebaaDoor
open Go.RowKit

/-- what impl.calls has done: the results, where they lie, the file's bytes -/
structure DoneI (Pr : Nat → Prop) (w0 w : World) (gm gz : Nat) (pre bs0 : List UInt8) (L : List Op) (vout : Value) (Y : Nat → Prop) (R : List RS) (vm : Value) : Prop where
  row : Row (fun k => Pr k ∨ Y k) w 40 4 vout L.length (R.flatMap RS.cells)
  res : Results bs0 L R
  data : ∀ x ∈ R, Rd Y w x.a x.r.d.length x.r.d ∧ x.r.d.length ≤ x.c
  inY : Inw Y w
  mem : MemIs (fun k => (Pr k ∨ Y k) ∨ vout.ownBlock = some k) w gm gz vm (pre ++ memB bs0 L)
  keeps : Keeps Pr w0 w

theorem DoneI.inw {Pr Y : Nat → Prop} {w0 w : World} {gm gz : Nat} {pre bs0 : List UInt8} {L : List Op} {vout vm : Value} {R : List RS} (h : DoneI Pr w0 w gm gz pre bs0 L vout Y R vm) (hin : Inw Pr w0) : Inw (fun k => (Pr k ∨ Y k) ∨ vout.ownBlock = some k) w := fun k hk => by
  rcases hk with (h1 | h1) | h1
  · exact h.keeps.inw hin k h1
  · exact h.inY k h1
  · exact (h.row.own h1).1

/-- one round: a call, and its result appended -/
theorem DoneI.step {Pr Y X : Nat → Prop} {w0 w W1 w2 W3 w5 : World} {gm gz i : Nat} {pre bs0 : List UInt8} {L : List Op} {vout vm v' vout' : Value} {R : List RS} {o : Op} {x : RS} (h : DoneI Pr w0 w gm gz pre bs0 (L.take i) vout Y R vm) (hin : Inw Pr w0) (hx : L[i]? = some o)
    (hW1 : Keeps (Old w) w W1) (hX : Inw X w2 ∧ ∀ k, X k → W1.heap.size ≤ k) (hr : Rd X w2 x.a x.r.d.length x.r.d) (hc : x.r.d.length ≤ x.c) (hok : resOk (memB bs0 (L.take i)) o.kind o.off o.size o.n x.r)
    (hm : MemIs (fun k => ((Pr k ∨ Y k) ∨ vout.ownBlock = some k) ∨ X k) w2 gm gz v' (pre ++ mstep (memB bs0 (L.take i)) o.kind o.off o.size o.d)) (hk : Keeps (fun k => (Pr k ∨ Y k) ∨ vout.ownBlock = some k) W1 w2)
    (hW3 : Keeps (Old w2) w2 W3) (hrow : Row (fun k => (Pr k ∨ Y k) ∨ X k) w5 40 4 vout' ((L.take i).length + 1) (R.flatMap RS.cells ++ x.cells)) (hg : W3.grownBy w5 vout.ownBlock) (ho : vout'.ownBlock = vout.ownBlock ∨ vout'.ownBlock = some W3.heap.size) :
    DoneI Pr w0 w5 gm gz pre bs0 (L.take (i + 1)) vout' (fun k => Y k ∨ X k) (R ++ [x]) v' := by
  have hinw := h.inw hin
  have hown : ∀ k, vout.ownBlock = some k → k < w.heap.size := fun k hk => (h.row.own hk).1
  have hXo : ∀ k, X k → vout.ownBlock ≠ some k := fun k hk e => by have := hX.2 k hk; have := hown k e; have := hW1.size; omega
  have hsz : w.heap.size ≤ w2.heap.size := Nat.le_trans hW1.size hk.size
  -- from w2 on all that is kept but the row
  have hk5 : Keeps (fun k => k < w2.heap.size ∧ vout.ownBlock ≠ some k) w2 w5 := (hW3.mono fun k h => h.1).trans (Keeps.grown (fun k h => Nat.lt_of_lt_of_le h.1 hW3.size) hg fun k e h => h.2 e)
  have hkPr : Keeps (fun k => Pr k ∨ Y k) w w5 := ((hW1.mono fun k hp => hinw k (.inl hp)).trans (hk.mono fun k hp => .inl hp)).trans (hk5.mono fun k hp => ⟨Nat.lt_of_lt_of_le (hinw k (.inl hp)) hsz, fun e => (h.row.own e).2.1 hp⟩)
  rw [take_snoc hx]
  have el : (L.take i ++ [o]).length = (L.take i).length + 1 := by simp
  refine ⟨?_, h.res.snoc hok, fun y hy => ?_, fun k hk' => ?_, ?_, h.keeps.trans (hkPr.mono fun k h => .inl h)⟩
  · rw [el]
    have := hrow.widen (Pr' := fun k => Pr k ∨ Y k ∨ X k) fun k hk' hor => (hrow.own hk').2.1 (by
      rcases hor with h | h | h
      · exact .inl (.inl h)
      · exact .inl (.inr h)
      · exact .inr h)
    rw [show (R ++ [x]).flatMap RS.cells = R.flatMap RS.cells ++ x.cells by simp]
    exact this
  · rcases List.mem_append.1 hy with hy | hy
    · obtain ⟨h1, h2⟩ := h.data y hy
      exact ⟨(h1.keeps (hkPr.mono fun k h => .inr h)).mono fun k h => .inl h, h2⟩
    · rw [List.mem_singleton] at hy
      subst hy
      exact ⟨(hr.keeps (hk5.mono fun k hp => ⟨hX.1 k hp, hXo k hp⟩)).mono fun k h => .inr h, hc⟩
  · rcases hk' with h1 | h1
    · exact Nat.lt_of_lt_of_le (h.inY k h1) hkPr.size
    · exact Nat.lt_of_lt_of_le (hX.1 k h1) hk5.size
  · rw [memB_snoc]
    refine (hm.widen (Pr' := fun k => ((Pr k ∨ (Y k ∨ X k)) ∨ vout'.ownBlock = some k) ∨ vout.ownBlock = some k) fun k hk' hn hor => ?_).kept hk5 (fun k hk' hn => ⟨hk', fun e => hn (.inr e)⟩) |>.widen fun k _ hn hor => hn (.inl hor)
    rcases hor with ((h1 | h1 | h1) | h1) | h1
    · exact hn (.inl (.inl (.inl h1)))
    · exact hn (.inl (.inl (.inr h1)))
    · exact hn (.inr h1)
    · rcases ho with e | e
      · exact hn (.inl (.inr (e ▸ h1)))
      · have hs3 := hW3.size
        rw [e] at h1
        simp only [Option.some.injEq] at h1
        omega
    · exact hn (.inl (.inr h1))

set_option maxRecDepth 100000 in
set_option maxHeartbeats 4000000 in
theorem icalls_inn_loop (Q0 : Exit → Act → World → Prop) (Pr : Nat → Prop) (w : World) (gi gm gz off0 : Nat) (pre bs : List UInt8) (L : List Op) (a : Option Addr) (n c : Nat) (va vb : Addr) (v : Value) (A : Act)
    (hin : Inw Pr w) (hL : L.length = n) (hn : n ≤ 1000000) (hnc : n ≤ c) (hrd : rdO Pr w a L) (hV : Vars Pr w va vb) (hfit : fitsAll L) (hbs : bs.length ≤ 262144) (hp : pre.length = off0) (ho2 : off0 ≤ 500000) (hI : InnAt Pr w gi gm off0) (hm : MemIs Pr w gm gz v (pre ++ bs))
    (hA : frm20p (.iface 61 (.pointer (some ⟨gi, 0, none⟩))) (.slice none 0 0) (.slice a n c) (.int .i64 (n : Int)) (.int .i64 ((0 : Nat) : Int)) A)
    (hexit : ∀ a' w' vout Y R vm, frm20p (.iface 61 (.pointer (some ⟨gi, 0, none⟩))) vout (.slice a n c) (.int .i64 (n : Int)) (.int .i64 (n : Int)) a' → DoneI Pr w w' gm gz pre bs L vout Y R vm → Q0 (.exit 0) a' w') :
    Code.wp Tryd.prog (Code.loop body20) Q0 A w := by
  have hd : ∀ o ∈ L, o.d.length = o.n := fun o ho => by
    rcases hrd with h0 | ⟨b, off, -, -, hc⟩
    · subst h0; cases ho
    · obtain ⟨i, hi⟩ := List.getElem?_of_mem ho
      exact (hc i o hi).rd.1
  refine wp_loop_ghost (fun k a' w' => ∃ (i : Nat) (vout : Value) (Y : Nat → Prop) (R : List RS) (vm : Value), k = n - i ∧ i ≤ n ∧ frm20p (.iface 61 (.pointer (some ⟨gi, 0, none⟩))) vout (.slice a n c) (.int .i64 (n : Int)) (.int .i64 (i : Int)) a' ∧ DoneI Pr w w' gm gz pre bs (L.take i) vout Y R vm) n
    ⟨0, .slice none 0 0, fun _ => False, [], v, rfl, Nat.zero_le _, hA, ?_⟩ ?_
  · refine ⟨by rw [List.take_zero]; exact Row.nil _ _ _ _, ⟨by simp, fun j x o hx _ => (by cases hx)⟩, fun x hx => (by cases hx), fun _ h => h.elim, ?_, Keeps.refl _ _⟩
    rw [List.take_zero]
    exact hm.widen fun k _ hn hor => by
      rcases hor with (h | h) | h
      · exact hn h
      · exact h
      · cases h
  rintro k a' w' ⟨i, vout, Y, R, vm, rfl, hi, ha, hD⟩
  obtain ⟨u, rfl⟩ := frm20 ha
  clear ha hA
  have HE := Lib.hid hexit
  have HD := Lib.hid hD
  conv => arg 2; whnf
  by_cases hlt : i < n
  · obtain ⟨o, ho⟩ : ∃ o, L[i]? = some o := ⟨_, List.getElem?_eq_getElem (by omega)⟩
    rcases hrd with h0 | ⟨b, off, rfl, hb, hc⟩
    · subst h0; cases ho
    have hop := (hc i o ho).keeps hb hD.keeps
    have x0 := hop.c0
    have x1 := hop.c1
    have x2 := hop.c2
    have x3 := hop.c3
    have hlen := memB_len (L.take i) bs (fun x hx => hfit x (List.mem_of_mem_take hx)) (fun x hx => hd x (List.mem_of_mem_take hx))
    obtain ⟨len, hfl⟩ := hfit o (List.mem_of_getElem? ho)
    have hlt2 : (L.take i).length = i := by rw [List.length_take]; omega
    have hinw := hD.inw hin
    -- the call, in the world with the box
    have hcall := fun (W1 : World) (hW1 : Keeps (Old w') w' W1) => call_inn (fun k => (Pr k ∨ Y k) ∨ vout.ownBlock = some k) W1 gi gm gz off0 vm pre (memB bs (L.take i)) o.d o.kind o.off o.size o.a o.n o.c hp ho2 (hinw.mono hW1.size) (((hI.keeps hD.keeps).keeps (hW1.mono fun k hp => hinw k (.inl (.inl hp)))).mono fun k h => .inl (.inl h)) (hD.mem.kept hW1 fun k hk _ => hk)
      ((hop.rd.keeps (hW1.mono fun k hp => hinw k (.inl (.inl hp)))).mono fun k h => .inl (.inl h)) va vb (((hV.keeps hD.keeps).keeps (hW1.mono fun k hp => hinw k (.inl (.inl hp)))).mono fun k h => .inl (.inl h)) len hfl (by omega)
    have hstep := fun (W1 w2 W3 w5 : World) (X : Nat → Prop) (v' vout' : Value) (x : RS) => DoneI.step (W1 := W1) (w2 := w2) (W3 := W3) (w5 := w5) (X := X) (v' := v') (vout' := vout') (x := x) hD hin ho
    have hrow := hD.row
    rw [hlt2] at hrow
    have HC := Lib.hid hcall
    have HS := Lib.hid hstep
    have HR := Lib.hid hrow
    have HIW := Lib.hid hinw
    have HLT := Lib.hid hlt2
    obtain ⟨av, cv, rfl, -⟩ := hrow.slice
    obtain ⟨i0, hi0, hz0, hz1, hz2⟩ := info_parts infoResult
    clear hc hfit hd hV hm hI hp hop hlen hfl hinw hcall hstep hD hexit hrow hlt2 ho
    obtain ⟨kd, of, sz, oa, on, oc, od⟩ := o
    simp only at x0 x1 x2 x3
    (repeat (first | go_values | go_skip | go_guarded | go_step | go_upon))
    have hK1 : Keeps (Old w') w' (w'.alloc (.cells #[.int .i64 kd, .int .i64 of, .int .i64 sz, .slice oa on oc] 47)) := Keeps.alloc (fun _ h => h) _
    refine (HC.out _ hK1).mono ?_
    rintro e w2 hcp
    obtain ⟨X, rv, r, v', rfl, hX, ⟨ra, rc, rfl, hrc, hrd2⟩, hok, hm2, hk2⟩ := hcp
    have hsz : w'.heap.size < w2.heap.size := Nat.lt_of_lt_of_le (by simp) hk2.size
    have hw2 : Inw (fun k => (Pr k ∨ Y k) ∨ X k) w2 := fun k hk => hk.elim (fun h => Nat.lt_of_lt_of_le (HIW.out k (.inl h)) (Nat.le_of_lt hsz)) (hX.1 k)
    have hrow2 : Row (fun k => (Pr k ∨ Y k) ∨ X k) w2 40 4 (.slice av i cv) i (R.flatMap RS.cells) := by
      have hr0 := (HR.out.kept (w' := w2) fun k hk => (hk2.block k (.inr hk)).trans (heap_alloc_lt _ _ (HR.out.own hk).1))
      exact hr0.widen fun k hk hor => hor.elim (HR.out.own hk).2.1 fun h => by have := hX.2 k h; have := (HR.out.own hk).1; simp at *; omega
    have hst := fun (w5 : World) (vout' : Value) (hrow5 : Row (fun k => (Pr k ∨ Y k) ∨ X k) w5 40 4 vout' (i + 1) (R.flatMap RS.cells ++ RS.cells ⟨r, ra, rc⟩)) (hg : (w2.alloc (.cells #[.int .i64 r.n, .slice ra r.d.length rc, .int .i64 r.sz, .int .i64 r.err] 40)).grownBy w5 (Value.slice av i cv).ownBlock) (ho : vout'.ownBlock = (Value.slice av i cv).ownBlock ∨ vout'.ownBlock = some (w2.alloc (.cells #[.int .i64 r.n, .slice ra r.d.length rc, .int .i64 r.sz, .int .i64 r.err] 40)).heap.size) =>
      HS.out _ w2 (w2.alloc (.cells #[.int .i64 r.n, .slice ra r.d.length rc, .int .i64 r.sz, .int .i64 r.err] 40)) w5 X v' vout' ⟨r, ra, rc⟩ hK1 hX hrd2 hrc hok hm2 hk2 (Keeps.alloc (fun _ h => h) _) (by rw [HLT.out]; exact hrow5) hg ho
    have HST := Lib.hid hst
    have HW2 := Lib.hid hw2
    have HR2 := Lib.hid hrow2
    clear hst hw2 hrow2 hX hrd2 hrc hok hm2 hk2 hK1 hsz HC
    dsimp only
    (repeat (first | (at_builtin; refine wpList_append_row rfl (.tmp 14) (.tmp 18) 35 rfl (Pr := fun k => (Pr k ∨ Y k) ∨ X k) (e := 40) (size := 4) (v := .slice av i cv) (n := i) (xs := R.flatMap RS.cells) ?cn i0 (.agg #[.int .i64 0, .slice none 0 0, .int .i64 0, .int .i64 0]) 48 Tryd.underlying35 hi0 hz0 hz1 hz2 rfl ?cr rfl ⟨w2.heap.size, 0, none⟩ 1 1 rfl (RS.cells ⟨r, ra, rc⟩) rfl ?cs ?c1 ?c3 ?c4 ?_) | go_values | go_skip | go_guarded | go_step | go_upon))
    case cn => exact (HW2.out.mono (by simp)).new
    case cr => exact HR2.out.alloc _
    case cs => exact fun j u hj => (cell_newRow w2 40 (RS.cells ⟨r, ra, rc⟩) j).trans hj
    case c1 => intro u hu; simp at hu; rcases hu with rfl | rfl | rfl | rfl <;> rfl
    case c3 => unfold maxLen; omega
    case c4 => omega
    intro v5 w5 hrow5 hg5 ho5
    have hD5 := HST.out w5 v5 hrow5 hg5 ho5
    obtain ⟨av5, cv5, rfl, -⟩ := hrow5.slice
    have HD5 := Lib.hid hD5
    clear hrow5 hg5 ho5 hD5
    (repeat (first | go_values | go_skip | go_guarded | go_step | go_upon))
    exact ⟨n - (i + 1), by omega, i + 1, _, _, _, _, rfl, by omega, ⟨rfl, rfl, rfl, rfl, rfl, rfl, by go_num⟩, HD5.out⟩
  · obtain rfl : i = n := by omega
    have hD' := hD
    rw [List.take_of_length_le (by omega)] at hD'
    have HD2 := Lib.hid hD'
    clear hrd hfit hd hV hm hI hp hD hD' HD hexit
    (repeat (first | go_values | go_skip | go_guarded | go_step | go_upon))
    exact HE.out _ _ _ _ _ _ ⟨rfl, rfl, rfl, rfl, rfl, rfl, rfl⟩ HD2.out

end Go.Proofs.YtkkliejgmgmebaaDoor
