/-
  impl.calls over a RollbackFiler: a round.
-/
import Derived.Test.YtkkliejgmgmebaaGreatDoorR31
import Derived.Test.YtkkliejgmgmebaaGreatDoorMb
namespace Go.Proofs.YtkkliejgmgmebaaGreatDoor
open Go.RowKit

/-- one call -/
theorem call_roll {tg : Nat → Nat × Nat} {w : World} {gr gc : Nat} {S : St} {va vb : Addr} (Pr : Nat → Prop) (kind off size : Int) (da : Option Addr) (dn dc : Nat) (xs : List UInt8) (h : RbIs 0 0 0 tg w gr gc S va vb) (hin : Inw Pr w) (hr : Rd Pr w da dn xs) (len : Nat) (hfit : fitsB len kind off size dn = true) (h3 : kind ≠ 3) (ht : S.t < 30) :
    Calls Tryz.prog 26 #[.iface 57 (.pointer (some ⟨gr, 0, none⟩)), .agg #[.int .i64 kind, .int .i64 off, .int .i64 size, .slice da dn dc]] w
      (CallR tg w gr gc va vb fun r S' => SStep S kind off size xs r S') := by
  by_cases k0 : kind = 0
  · subst k0
    obtain ⟨h1, h2, h3, h4⟩ := fitsB_0 hfit
    obtain ⟨o, rfl⟩ := Int.eq_ofNat_of_zero_le h1
    exact call_roll_0 Pr o size da dn dc xs h hin hr h3 (by omega) (by omega)
  by_cases k1 : kind = 1
  · subst k1
    obtain ⟨h1, h2, h3, h4⟩ := fitsB_1 hfit
    obtain ⟨o, rfl⟩ := Int.eq_ofNat_of_zero_le h1
    obtain ⟨n, rfl⟩ := Int.eq_ofNat_of_zero_le (show 0 ≤ size by omega)
    exact call_roll_1 o n da dn dc xs h (by omega) (by omega) (by omega)
  by_cases k2 : kind = 2
  · subst k2
    obtain ⟨h1, h2⟩ := fitsB_2 hfit
    by_cases h0 : S.t = 0
    · exact call_roll_20 off size da dn dc xs h h0
    · obtain ⟨n, rfl⟩ := Int.eq_ofNat_of_zero_le h1
      exact call_roll_21 off n da dn dc xs h (by omega) (by omega)
  have hx := fitsB_x hfit k0 k1 k2 h3
  have h4 : kind = 4 ∨ kind = 5 ∨ kind = 6 ∨ kind = 7 := by omega
  rcases h4 with rfl | rfl | rfl | rfl
  · exact call_roll_4 off size da dn dc xs h
  · exact call_roll_5 off size da dn dc xs h ht
  · by_cases h0 : S.t = 0
    · exact call_roll_60 off size da dn dc xs h h0
    · exact call_roll_61 off size da dn dc xs h (by omega)
  · by_cases h0 : S.t = 0
    · exact call_roll_70 off size da dn dc xs h h0
    · exact call_roll_71 off size da dn dc xs h (by omega)

/-- the number of transactions behind a call -/
def stepT (t : Nat) (k : Int) : Nat := if k = 5 then t + 1 else if k = 6 ∨ k = 7 then t - 1 else t
def depth (L : List Op) : Nat := L.foldl (fun t o => stepT t o.kind) 0
theorem depth_snoc (L : List Op) (o : Op) : depth (L ++ [o]) = stepT (depth L) o.kind := by simp [depth]

theorem SStep.t {S S' : St} {kind off size : Int} {xs : List UInt8} {r : Res} (h : SStep S kind off size xs r S') (hk : kind = 0 ∨ kind = 1 ∨ kind = 2 ∨ kind = 4 ∨ kind = 5 ∨ kind = 6 ∨ kind = 7) : S'.t = stepT S.t kind := by
  unfold stepT
  rcases hk with rfl | rfl | rfl | rfl | rfl | rfl | rfl
  · rw [if_neg (by decide), if_neg (by decide)]
    by_cases h0 : S.t = 0
    · rw [(h.perm (.inl rfl) h0).2]
    · exact (h.wr rfl (by omega)).2.upd.t
  · rw [if_neg (by decide), if_neg (by decide)]
    obtain ⟨d, -, -, -, -, hL⟩ := h.rd rfl
    exact hL.t
  · rw [if_neg (by decide), if_neg (by decide)]
    by_cases h0 : S.t = 0
    · rw [(h.perm (.inr (.inl rfl)) h0).2]
    · exact (h.tr rfl (by omega)).2.upd.t
  · rw [if_neg (by decide), if_neg (by decide), (h.sz rfl).2.2]
  · rw [if_pos rfl]
    obtain ⟨b, m, e⟩ := (h.bg rfl).2
    rw [e]; rfl
  · rw [if_neg (by decide), if_pos (.inl rfl)]
    by_cases h0 : S.t = 0
    · rw [(h.perm (.inr (.inr (.inl rfl))) h0).2]; omega
    · exact (h.en rfl (by omega)).2.t
  · rw [if_neg (by decide), if_pos (.inr rfl)]
    by_cases h0 : S.t = 0
    · rw [(h.perm (.inr (.inr (.inr rfl))) h0).2]; omega
    · rw [(h.rb rfl (by omega)).2]; rfl

/-- the states that calls go through, and their results -/
structure Runs (S0 : St) (L : List Op) (R : List RS) (Ss : Nat → St) : Prop where
  len : R.length = L.length
  zero : Ss 0 = S0
  step : ∀ (j : Nat) (x : RS) (o : Op), R[j]? = some x → L[j]? = some o → SStep (Ss j) o.kind o.off o.size o.d x.r (Ss (j + 1))

theorem Runs.snoc {S0 S' : St} {L : List Op} {R : List RS} {Ss : Nat → St} {o : Op} {x : RS} (h : Runs S0 L R Ss) (hs : SStep (Ss L.length) o.kind o.off o.size o.d x.r S') : Runs S0 (L ++ [o]) (R ++ [x]) (fun j => if j ≤ L.length then Ss j else S') := by
  refine ⟨by simp [h.len], (if_pos (Nat.zero_le _)).trans h.zero, fun j y p hy hp => ?_⟩
  have hj : j < L.length + 1 := by have := (List.getElem?_eq_some_iff.1 hp).1; simpa using this
  by_cases hlt : j < L.length
  · rw [List.getElem?_append_left (by rw [h.len]; exact hlt)] at hy
    rw [List.getElem?_append_left hlt] at hp
    rw [if_pos (by omega), if_pos (by omega)]
    exact h.step j y p hy hp
  · obtain rfl : j = L.length := by omega
    rw [List.getElem?_append_right (by rw [h.len]; exact Nat.le_refl _), h.len, Nat.sub_self] at hy
    rw [List.getElem?_append_right (Nat.le_refl _), Nat.sub_self] at hp
    simp only [List.getElem?_cons_zero, Option.some.injEq] at hy hp
    subst hy hp
    rw [if_pos (Nat.le_refl _), if_neg (by omega)]
    exact hs

/-- what impl.calls has done -/
structure DoneR (Pr : Nat → Prop) (tg0 : Nat → Nat × Nat) (w0 w : World) (gr gc : Nat) (va vb : Addr) (S0 : St) (L : List Op) (vout : Value) (Y : Nat → Prop) (R : List RS) (tg : Nat → Nat × Nat) (Ss : Nat → St) : Prop where
  row : Row (fun k => Pr k ∨ Y k) w 60 4 vout L.length (R.flatMap RS.cells)
  run : Runs S0 L R Ss
  dep : (Ss L.length).t = depth L
  data : ∀ x ∈ R, Rd Y w x.a x.r.d.length x.r.d ∧ x.r.d.length ≤ x.c
  inY : Inw Y w ∧ ∀ k, Y k → (tg k).1 = 500
  own : ∀ k, vout.ownBlock = some k → (tg k).1 = 500
  rb : RbIs 0 0 0 tg w gr gc (Ss L.length) va vb
  tags : ∀ j, j < w0.heap.size → tg j = tg0 j
  keeps : Keeps Pr w0 w

/-- one round: a call, and its result appended -/
theorem DoneR.step {Pr Y X : Nat → Prop} {tg0 tg tg1 tg2 : Nat → Nat × Nat} {w0 w W1 w2 W3 w5 : World} {gr gc i : Nat} {va vb : Addr} {S0 S' : St} {L : List Op} {vout vout' : Value} {R : List RS} {Ss : Nat → St} {o : Op} {x : RS} (h : DoneR Pr tg0 w0 w gr gc va vb S0 (L.take i) vout Y R tg Ss) (hP : ∀ k, Pr k → k < w0.heap.size ∧ 1000 ≤ (tg0 k).1) (hx : L[i]? = some o)
    (hok : o.kind = 0 ∨ o.kind = 1 ∨ o.kind = 2 ∨ o.kind = 4 ∨ o.kind = 5 ∨ o.kind = 6 ∨ o.kind = 7)
    (hW1 : Keeps (Old w) w W1) (t1o : ∀ j, j < w.heap.size → tg1 j = tg j) (hX : Inw X w2 ∧ ∀ k, X k → W1.heap.size ≤ k ∧ (tg2 k).1 = 500) (hr : Rd X w2 x.a x.r.d.length x.r.d) (hc : x.r.d.length ≤ x.c) (hs : SStep (Ss (L.take i).length) o.kind o.off o.size o.d x.r S')
    (hrb : RbIs 0 0 0 tg2 w2 gr gc S' va vb) (t2 : ∀ j, j < W1.heap.size → tg2 j = tg1 j) (hk : Keeps (OutR tg1 W1 gr) W1 w2)
    (hW3 : Keeps (Old w2) w2 W3) (hrow : Row (fun k => (Pr k ∨ Y k) ∨ X k) w5 60 4 vout' ((L.take i).length + 1) (R.flatMap RS.cells ++ x.cells)) (hg : W3.grownBy w5 vout.ownBlock) (ho : vout'.ownBlock = vout.ownBlock ∨ vout'.ownBlock = some W3.heap.size) :
    ∃ tg' Ss', DoneR Pr tg0 w0 w5 gr gc va vb S0 (L.take (i + 1)) vout' (fun k => Y k ∨ X k) (R ++ [x]) tg' Ss' := by
  have s1 := hW1.size
  have s2 := hk.size
  have s3 := hW3.size
  have s5 := hg.size
  have hgr : (tg gr).1 = 900 := h.rb.tr
  have hown : ∀ k, vout.ownBlock = some k → k < w.heap.size := fun k hk => (h.row.own hk).1
  have hownt : ∀ k, vout.ownBlock = some k → (tg2 k).1 = 500 := fun k hk => by rw [t2 k (by have := hown k hk; omega), t1o k (hown k hk)]; exact h.own k hk
  have hXo : ∀ k, X k → vout.ownBlock ≠ some k := fun k hk e => by have := (hX.2 k hk).1; have := hown k e; omega
  have hk5 : Keeps (fun k => k < w2.heap.size ∧ vout.ownBlock ≠ some k) w2 w5 := (hW3.mono fun k h => h.1).trans (Keeps.grown (fun k h => Nat.lt_of_lt_of_le h.1 s3) hg fun k e h => h.2 e)
  have ht0 : ∀ k, Pr k ∨ Y k → k < w.heap.size ∧ 100 ≤ (tg k).1 ∧ k ≠ gr ∧ vout.ownBlock ≠ some k := fun k hp => by
    rcases hp with hp | hp
    · obtain ⟨h1, h2⟩ := hP k hp
      have h3 := h.keeps.size
      rw [← h.tags k h1] at h2
      exact ⟨by omega, by omega, fun e => by subst e; omega, fun e => by have := h.own k e; omega⟩
    · have h2 := h.inY.2 k hp
      exact ⟨h.inY.1 k hp, by omega, fun e => by subst e; omega, fun e => (h.row.own e).2.1 (.inr hp)⟩
  have hkPr : Keeps (fun k => Pr k ∨ Y k) w w5 := ((hW1.mono fun k hp => (ht0 k hp).1).trans (hk.mono fun k hp => ⟨by have := (ht0 k hp).1; omega, by rw [t1o k (ht0 k hp).1]; exact (ht0 k hp).2.1, (ht0 k hp).2.2.1⟩)).trans (hk5.mono fun k hp => ⟨by have := (ht0 k hp).1; omega, (ht0 k hp).2.2.2⟩)
  have htt := hrb.st.tt
  rw [take_snoc hx]
  have el : (L.take i ++ [o]).length = (L.take i).length + 1 := by simp
  have eS : (if (L.take i ++ [o]).length ≤ (L.take i).length then Ss (L.take i ++ [o]).length else S') = S' := if_neg (by rw [el]; omega)
  refine ⟨fun j => if j < w2.heap.size then tg2 j else (500, 0), fun j => if j ≤ (L.take i).length then Ss j else S', ?_, h.run.snoc hs, ?_, fun y hy => ?_, ⟨fun k hk' => ?_, fun k hk' => ?_⟩, fun k hk' => ?_, ?_, fun j hj => ?_, h.keeps.trans (hkPr.mono fun k h => .inl h)⟩
  · rw [el]
    have := hrow.widen (Pr' := fun k => Pr k ∨ Y k ∨ X k) fun k hk' hor => (hrow.own hk').2.1 (by
      rcases hor with h | h | h
      · exact .inl (.inl h)
      · exact .inl (.inr h)
      · exact .inr h)
    rw [show (R ++ [x]).flatMap RS.cells = R.flatMap RS.cells ++ x.cells by simp]
    exact this
  · show (if (L.take i ++ [o]).length ≤ (L.take i).length then Ss (L.take i ++ [o]).length else S').t = _
    rw [eS, depth_snoc, hs.t hok, h.dep]
  · rcases List.mem_append.1 hy with hy | hy
    · obtain ⟨h1, h2⟩ := h.data y hy
      exact ⟨(h1.keeps (hkPr.mono fun k h => .inr h)).mono fun k h => .inl h, h2⟩
    · rw [List.mem_singleton] at hy
      subst hy
      exact ⟨(hr.keeps (hk5.mono fun k hp => ⟨hX.1 k hp, hXo k hp⟩)).mono fun k h => .inr h, hc⟩
  · rcases hk' with h1 | h1
    · exact Nat.lt_of_lt_of_le (h.inY.1 k h1) hkPr.size
    · exact Nat.lt_of_lt_of_le (hX.1 k h1) hk5.size
  · rcases hk' with h1 | h1
    · have h2 := h.inY.1 k h1
      show (if k < w2.heap.size then tg2 k else (500, 0)).1 = 500
      rw [if_pos (by omega), t2 k (by omega), t1o k h2]
      exact h.inY.2 k h1
    · show (if k < w2.heap.size then tg2 k else (500, 0)).1 = 500
      rw [if_pos (hX.1 k h1)]
      exact (hX.2 k h1).2
  · show (if k < w2.heap.size then tg2 k else (500, 0)).1 = 500
    rcases ho with e | e
    · rw [e] at hk'
      rw [if_pos (by have := hown k hk'; omega)]
      exact hownt k hk'
    · rw [e] at hk'
      simp only [Option.some.injEq] at hk'
      rw [if_neg (by omega)]
  · show RbIs 0 0 0 _ w5 gr gc (if (L.take i ++ [o]).length ≤ (L.take i).length then Ss (L.take i ++ [o]).length else S') va vb
    rw [eS]
    refine hrb.step (hrb.st.kept (fun j h1 h2 => hk5.block j ⟨h1, fun e => by have := hownt j e; omega⟩) (fun j h1 _ => if_pos h1)) (fun j h1 => if_pos h1) (hk5.mono fun j hj => ⟨hj.1, fun e => by have := hownt j e; omega⟩) rfl rfl rfl
  · have := h.keeps.size
    rw [if_pos (by omega), t2 j (by omega), t1o j (by omega)]
    exact h.tags j hj

end Go.Proofs.YtkkliejgmgmebaaGreatDoor

namespace Go.Proofs.YtkkliejgmgmebaaGreatDoor
open Go.RowKit

/-- the calls are of the kinds of which something is said, and no more than some transactions lie in each other -/
def fitsR (L : List Op) : Prop := ∀ (i : Nat) (o : Op), L[i]? = some o → (∃ len, fitsB len o.kind o.off o.size o.n = true) ∧ o.kind ≠ 3 ∧ depth (L.take i) < 30

theorem kind_cases {len : Nat} {kind off size : Int} {dn : Nat} (h : fitsB len kind off size dn = true) (h3 : kind ≠ 3) : kind = 0 ∨ kind = 1 ∨ kind = 2 ∨ kind = 4 ∨ kind = 5 ∨ kind = 6 ∨ kind = 7 := by
  by_cases k0 : kind = 0
  · exact .inl k0
  by_cases k1 : kind = 1
  · exact .inr (.inl k1)
  by_cases k2 : kind = 2
  · exact .inr (.inr (.inl k2))
  have := fitsB_x h k0 k1 k2 h3
  omega

set_option maxRecDepth 100000 in
set_option maxHeartbeats 4000000 in
theorem rcalls_loop (Q0 : Exit → Act → World → Prop) (Pr : Nat → Prop) (tg0 : Nat → Nat × Nat) (w : World) (gr gc : Nat) (S0 : St) (L : List Op) (a : Option Addr) (n c : Nat) (va vb : Addr) (A : Act)
    (hP : ∀ k, Pr k → k < w.heap.size ∧ 1000 ≤ (tg0 k).1) (hL : L.length = n) (hn : n ≤ 1000000) (hnc : n ≤ c) (hrd : rdO Pr w a L) (hfit : fitsR L) (hm : RbIs 0 0 0 tg0 w gr gc S0 va vb) (h0 : S0.t = 0)
    (hA : frm20p (.iface 57 (.pointer (some ⟨gr, 0, none⟩))) (.slice none 0 0) (.slice a n c) (.int .i64 (n : Int)) (.int .i64 ((0 : Nat) : Int)) A)
    (hexit : ∀ a' w' vout Y R tg Ss, frm20p (.iface 57 (.pointer (some ⟨gr, 0, none⟩))) vout (.slice a n c) (.int .i64 (n : Int)) (.int .i64 (n : Int)) a' → DoneR Pr tg0 w w' gr gc va vb S0 L vout Y R tg Ss → Q0 (.exit 0) a' w') :
    Code.wp Tryz.prog (Code.loop body20) Q0 A w := by
  refine wp_loop_ghost (fun k a' w' => ∃ (i : Nat) (vout : Value) (Y : Nat → Prop) (R : List RS) (tg : Nat → Nat × Nat) (Ss : Nat → St), k = n - i ∧ i ≤ n ∧ frm20p (.iface 57 (.pointer (some ⟨gr, 0, none⟩))) vout (.slice a n c) (.int .i64 (n : Int)) (.int .i64 (i : Int)) a' ∧ DoneR Pr tg0 w w' gr gc va vb S0 (L.take i) vout Y R tg Ss) n
    ⟨0, .slice none 0 0, fun _ => False, [], tg0, fun _ => S0, rfl, Nat.zero_le _, hA, ?_⟩ ?_
  · refine ⟨by rw [List.take_zero]; exact Row.nil _ _ _ _, ⟨by simp, rfl, fun j x o hx _ => (by cases hx)⟩, ?_, fun x hx => (by cases hx), ⟨fun _ h => h.elim, fun _ h => h.elim⟩, fun k hk => (by cases hk), hm, fun _ _ => rfl, Keeps.refl _ _⟩
    rw [List.take_zero]
    exact h0
  rintro k a' w' ⟨i, vout, Y, R, tg, Ss, rfl, hi, ha, hD⟩
  obtain ⟨u, rfl⟩ := frm20 ha
  clear ha hA
  have HE := Lib.hid hexit
  have HD := Lib.hid hD
  conv => arg 2; whnf
  by_cases hlt : i < n
  · obtain ⟨o, ho⟩ : ∃ o, L[i]? = some o := ⟨_, List.getElem?_eq_getElem (by omega)⟩
    rcases hrd with h0 | ⟨b, off, rfl, hb, hc⟩
    · subst h0; cases ho
    have hop := (hc i o ho).keeps hb hD.keeps
    have x0 := hop.c0
    have x1 := hop.c1
    have x2 := hop.c2
    have x3 := hop.c3
    obtain ⟨⟨len, hfl⟩, hk3, hdp⟩ := hfit i o ho
    have hks := kind_cases hfl hk3
    have hlt2 : (L.take i).length = i := by rw [List.length_take]; omega
    have hgs := hD.keeps.size
    have hinP : Inw Pr w' := fun k hp => by have := (hP k hp).1; omega
    -- the call, in the world with the box
    have hcall : ∀ (W1 : World), Keeps (Old w') w' W1 → ∃ tg1 : Nat → Nat × Nat, (∀ j, j < w'.heap.size → tg1 j = tg j) ∧ Calls Tryz.prog 26 #[.iface 57 (.pointer (some ⟨gr, 0, none⟩)), .agg #[.int .i64 o.kind, .int .i64 o.off, .int .i64 o.size, .slice o.a o.n o.c]] W1 (CallR tg1 W1 gr gc va vb fun r S' => SStep (Ss (L.take i).length) o.kind o.off o.size o.d r S') := by
      intro W1 hW1
      obtain ⟨tg1, t1o, t1n, h1⟩ := hD.rb.fresh hW1
      exact ⟨tg1, t1o, call_roll Pr o.kind o.off o.size o.a o.n o.c o.d h1 (hinP.mono hW1.size) (hop.rd.keeps (hW1.mono fun k hp => hinP k hp)) len hfl hk3 (by rw [hD.dep]; exact hdp)⟩
    have hstep := fun (tg1 tg2 : Nat → Nat × Nat) (W1 w2 W3 w5 : World) (X : Nat → Prop) (S' : St) (vout' : Value) (x : RS) => DoneR.step (tg1 := tg1) (tg2 := tg2) (W1 := W1) (w2 := w2) (W3 := W3) (w5 := w5) (X := X) (S' := S') (vout' := vout') (x := x) hD hP ho hks
    have hrow := hD.row
    rw [hlt2] at hrow
    have hpy : ∀ k, Pr k ∨ Y k → k < w'.heap.size := fun k h => h.elim (hinP k) (hD.inY.1 k)
    have hpg : ∀ (tg1 : Nat → Nat × Nat), (∀ j, j < w'.heap.size → tg1 j = tg j) → ∀ k, vout.ownBlock = some k → 100 ≤ (tg1 k).1 ∧ k ≠ gr := fun tg1 h1 k hk => by
      have h2 := hD.own k hk
      have h3 := hD.rb.tr
      rw [h1 k (hD.row.own hk).1]
      exact ⟨by omega, fun e => by subst e; omega⟩
    have HC := Lib.hid hcall
    have HS := Lib.hid hstep
    have HR := Lib.hid hrow
    have HPY := Lib.hid hpy
    have HPG := Lib.hid hpg
    have HLT := Lib.hid hlt2
    obtain ⟨av, cv, rfl, -⟩ := hrow.slice
    obtain ⟨i0, hi0, hz0, hz1, hz2⟩ := info_parts infoResult
    clear hc hfit hm hop hfl hk3 hdp hks hcall hstep hD hexit hrow hlt2 ho hgs hpy hpg hinP
    obtain ⟨kd, of, sz, oa, on, oc, od⟩ := o
    simp only at x0 x1 x2 x3
    (repeat (first | go_values | go_skip | go_guarded | go_step | go_upon))
    have hK1 : Keeps (Old w') w' (w'.alloc (.cells #[.int .i64 kd, .int .i64 of, .int .i64 sz, .slice oa on oc] 42)) := Keeps.alloc (fun _ h => h) _
    obtain ⟨tg1, t1o, hcl⟩ := HC.out _ hK1
    refine hcl.mono ?_
    rintro e w2 hcp
    obtain ⟨X, rv, r, tg2, S', rfl, hX, ⟨ra, rc, rfl, hrc, hrd2⟩, hok, hrb2, t2, hk2⟩ := hcp
    have hsz : w'.heap.size < w2.heap.size := Nat.lt_of_lt_of_le (by simp) hk2.size
    have hw2 : Inw (fun k => (Pr k ∨ Y k) ∨ X k) w2 := fun k hk => hk.elim (fun h => Nat.lt_of_lt_of_le (HPY.out k h) (Nat.le_of_lt hsz)) (hX.1 k)
    have hrow2 : Row (fun k => (Pr k ∨ Y k) ∨ X k) w2 60 4 (.slice av i cv) i (R.flatMap RS.cells) := by
      have hr0 := (HR.out.kept (w' := w2) fun k hk => (hk2.block k ⟨by have := (HR.out.own hk).1; simp; omega, (HPG.out tg1 t1o k hk).1, (HPG.out tg1 t1o k hk).2⟩).trans (heap_alloc_lt _ _ (HR.out.own hk).1))
      exact hr0.widen fun k hk hor => hor.elim (HR.out.own hk).2.1 fun h => by have := (hX.2 k h).1; have := (HR.out.own hk).1; simp at *; omega
    have hst := fun (w5 : World) (vout' : Value) (hrow5 : Row (fun k => (Pr k ∨ Y k) ∨ X k) w5 60 4 vout' (i + 1) (R.flatMap RS.cells ++ RS.cells ⟨r, ra, rc⟩)) (hg : (w2.alloc (.cells #[.int .i64 r.n, .slice ra r.d.length rc, .int .i64 r.sz, .int .i64 r.err] 60)).grownBy w5 (Value.slice av i cv).ownBlock) (ho : vout'.ownBlock = (Value.slice av i cv).ownBlock ∨ vout'.ownBlock = some (w2.alloc (.cells #[.int .i64 r.n, .slice ra r.d.length rc, .int .i64 r.sz, .int .i64 r.err] 60)).heap.size) =>
      HS.out tg1 tg2 _ w2 (w2.alloc (.cells #[.int .i64 r.n, .slice ra r.d.length rc, .int .i64 r.sz, .int .i64 r.err] 60)) w5 X S' vout' ⟨r, ra, rc⟩ hK1 t1o hX hrd2 hrc hok hrb2 t2 hk2 (Keeps.alloc (fun _ h => h) _) (by rw [HLT.out]; exact hrow5) hg ho
    have HST := Lib.hid hst
    have HW2 := Lib.hid hw2
    have HR2 := Lib.hid hrow2
    clear hst hw2 hrow2 hX hrd2 hrc hok hrb2 t2 hk2 hK1 hsz HC t1o hcl
    dsimp only
    (repeat (first | (at_builtin; refine wpList_append_row rfl (.tmp 14) (.tmp 18) 28 rfl (Pr := fun k => (Pr k ∨ Y k) ∨ X k) (e := 60) (size := 4) (v := .slice av i cv) (n := i) (xs := R.flatMap RS.cells) ?cn i0 (.agg #[.int .i64 0, .slice none 0 0, .int .i64 0, .int .i64 0]) 48 Tryz.underlying28 hi0 hz0 hz1 hz2 rfl ?cr rfl ⟨w2.heap.size, 0, none⟩ 1 1 rfl (RS.cells ⟨r, ra, rc⟩) rfl ?cs ?c1 ?c3 ?c4 ?_) | go_values | go_skip | go_guarded | go_step | go_upon))
    case cn => exact (HW2.out.mono (by simp)).new
    case cr => exact HR2.out.alloc _
    case cs => exact fun j u hj => (cell_newRow w2 60 (RS.cells ⟨r, ra, rc⟩) j).trans hj
    case c1 => intro u hu; simp at hu; rcases hu with rfl | rfl | rfl | rfl <;> rfl
    case c3 => unfold maxLen; omega
    case c4 => omega
    intro v5 w5 hrow5 hg5 ho5
    obtain ⟨tg5, Ss5, hD5⟩ := HST.out w5 v5 hrow5 hg5 ho5
    obtain ⟨av5, cv5, rfl, -⟩ := hrow5.slice
    have HD5 := Lib.hid hD5
    clear hrow5 hg5 ho5 hD5
    (repeat (first | go_values | go_skip | go_guarded | go_step | go_upon))
    exact ⟨n - (i + 1), by omega, i + 1, _, _, _, _, _, rfl, by omega, ⟨rfl, rfl, rfl, rfl, rfl, rfl, by go_num⟩, HD5.out⟩
  · obtain rfl : i = n := by omega
    have hD' := hD
    rw [List.take_of_length_le (by omega)] at hD'
    have HD2 := Lib.hid hD'
    clear hrd hfit hm hD hD' HD hexit
    (repeat (first | go_values | go_skip | go_guarded | go_step | go_upon))
    exact HE.out _ _ _ _ _ _ _ ⟨rfl, rfl, rfl, rfl, rfl, rfl, rfl⟩ HD2.out

end Go.Proofs.YtkkliejgmgmebaaGreatDoor

namespace Go.Proofs.YtkkliejgmgmebaaGreatDoor
open Go.RowKit

theorem eql_filer_nil (w : World) (t : TypeId) (v : Value) : (binOp .eql 66 (.iface t v) .nilIface).run Tryz.prog w = .ok (.bool false) w := by kernel_rfl
theorem eql_wat_nil (w : World) (t : TypeId) (v : Value) : (binOp .eql 89 (.iface t v) .nilIface).run Tryz.prog w = .ok (.bool false) w := by kernel_rfl
theorem eql_ck_nil (w : World) (f : Fn) (x y : Array Value) : (binOp .eql 74 (.func f x y) .nilFunc).run Tryz.prog w = .ok (.bool false) w := by kernel_rfl

set_option maxRecDepth 100000 in
theorem newRoll_any (w : World) (gm gc : Nat) : Calls Tryz.prog 28 #[.iface 68 (.pointer (some ⟨gm, 0, none⟩)), ckV gc, .iface 68 (.pointer (some ⟨gm, 0, none⟩))] w fun e w' =>
    e = .returned (.tuple #[.pointer (some ⟨w.heap.size, 0, none⟩), .nilIface]) ∧ w' = w.alloc (.cells (rollC 0 0 0 gm gc 0 none) 107) := by
  have e1 := eql_filer_nil
  have e2 := eql_wat_nil
  have e3 := eql_ck_nil
  go_enter Tryz.func28, Tryz.ntmps28
  (repeat (first | go_values | go_skip | go_guarded | go_step | go_upon))
  go_ret2
  exact ⟨rfl, rfl⟩

set_option maxRecDepth 100000 in
theorem rollback_any (w : World) (gz : Nat) : Calls Tryz.prog 18 #[.pointer (some ⟨gz, 0, none⟩)] w fun e w' =>
    e = .returned (.pointer (some ⟨w.heap.size + 2, 0, none⟩)) ∧ w'.heap[w.heap.size]? = some (.cells #[.pointer (some ⟨gz, 0, none⟩), .int .i64 0] 87 (0, 0)) ∧ w'.heap[w.heap.size + 1]? = some (.cells #[.pointer (some ⟨w.heap.size, 0, none⟩)] 68 (0, 0)) ∧
      RollAt w' (w.heap.size + 2) 0 0 0 w.heap.size (w.heap.size + 1) 0 none ∧ Keeps (Old w) w w' ∧ w'.heap.size = w.heap.size + 3 := by
  have q5 := neq_nil_nil
  have hmf := run_makeFn
  go_enter Tryz.func18, Tryz.ntmps18
  (repeat (first | go_values | go_skip | go_guarded | go_step | go_upon))
  refine (newZZ_any _ _).mono ?_
  rintro e w1 ⟨rfl, rfl⟩
  dsimp only
  (repeat (first | go_values | go_skip | go_guarded | go_step | go_upon))
  refine (newRoll_any _ _ _).mono ?_
  rintro e w2 ⟨rfl, rfl⟩
  dsimp only
  (repeat (first | go_values | go_skip | go_guarded | go_step | go_upon))
  go_ret
  have s1 : (w.alloc (.cells #[.pointer (some ⟨gz, 0, none⟩), .int .i64 0] 87)).heap.size = w.heap.size + 1 := by simp
  have s2 : ((w.alloc (.cells #[.pointer (some ⟨gz, 0, none⟩), .int .i64 0] 87)).alloc (.cells #[.pointer (some ⟨w.heap.size, 0, none⟩)] 68)).heap.size = w.heap.size + 2 := by simp
  refine ⟨rfl, (heap_alloc_lt _ _ (by omega)).trans (heap_alloc2_old w _ _), (heap_alloc_lt _ _ (by omega)).trans (heap_alloc2_new w _ _), heap_alloc_at _ _ s2.symm, ?_, by simp⟩
  exact ((Keeps.alloc (fun _ h => h) _).trans (Keeps.alloc (fun k (h : k < w.heap.size) => by omega) _)).trans (Keeps.alloc (fun k (h : k < w.heap.size) => by omega) _)

theorem rcalls_any (Pr : Nat → Prop) (tg0 : Nat → Nat × Nat) (w : World) (gr gc : Nat) (S0 : St) (L : List Op) (a : Option Addr) (n c : Nat) (va vb : Addr)
    (hP : ∀ k, Pr k → k < w.heap.size ∧ 1000 ≤ (tg0 k).1) (hL : L.length = n) (hn : n ≤ 1000000) (hnc : n ≤ c) (hrd : rdO Pr w a L) (hfit : fitsR L) (hm : RbIs 0 0 0 tg0 w gr gc S0 va vb) (h0 : S0.t = 0) :
    Calls Tryz.prog 17 #[.iface 57 (.pointer (some ⟨gr, 0, none⟩)), .slice a n c] w fun e w' => ∃ vout Y R tg Ss, e = .returned vout ∧ DoneR Pr tg0 w w' gr gc va vb S0 L vout Y R tg Ss := by
  have HL := Lib.hid (fun Q0 A hA hx => rcalls_loop Q0 Pr tg0 w gr gc S0 L a n c va vb A hP hL hn hnc hrd hfit hm h0 hA hx)
  clear hP hL hrd hfit hm h0
  go_enter Tryz.func17, Tryz.ntmps17
  (repeat (first | go_values | go_skip | go_guarded | go_step | go_upon))
  refine HL.out _ _ ⟨rfl, rfl, rfl, rfl, rfl, rfl, rfl⟩ ?_
  intro a' w' vout Y R tg Ss ha hD
  obtain ⟨u, rfl⟩ := frm20 ha
  have HD := Lib.hid hD
  obtain ⟨av, cv, rfl, -⟩ := hD.row.slice
  clear hD ha
  simp only [Exit.inBlock, ↓reduceIte]
  (repeat (first | go_values | go_skip | go_guarded | go_step | go_upon))
  go_ret
  exact ⟨_, Y, R, tg, Ss, rfl, HD.out⟩

theorem SStep.gz {S S' : St} {kind off size : Int} {xs : List UInt8} {r : Res} (h : SStep S kind off size xs r S') (hk : kind = 0 ∨ kind = 1 ∨ kind = 2 ∨ kind = 4 ∨ kind = 5 ∨ kind = 6 ∨ kind = 7) : S'.gz = S.gz := by
  rcases hk with rfl | rfl | rfl | rfl | rfl | rfl | rfl
  · by_cases h0 : S.t = 0
    · rw [(h.perm (.inl rfl) h0).2]
    · exact (h.wr rfl (by omega)).2.upd.gz
  · obtain ⟨d, -, -, -, -, hL⟩ := h.rd rfl
    exact hL.gz
  · by_cases h0 : S.t = 0
    · rw [(h.perm (.inr (.inl rfl)) h0).2]
    · exact (h.tr rfl (by omega)).2.upd.gz
  · rw [(h.sz rfl).2.2]
  · obtain ⟨b, m, e⟩ := (h.bg rfl).2
    rw [e]; rfl
  · by_cases h0 : S.t = 0
    · rw [(h.perm (.inr (.inr (.inl rfl))) h0).2]
    · exact (h.en rfl (by omega)).2.gz
  · by_cases h0 : S.t = 0
    · rw [(h.perm (.inr (.inr (.inr rfl))) h0).2]
    · rw [(h.rb rfl (by omega)).2]; rfl

theorem Runs.gz {S0 : St} {L : List Op} {R : List RS} {Ss : Nat → St} (h : Runs S0 L R Ss) (hf : fitsR L) : ∀ j, j ≤ L.length → (Ss j).gz = S0.gz
  | 0, _ => by rw [h.zero]
  | j + 1, hj => by
    have hl := h.len
    obtain ⟨o, ho⟩ : ∃ o, L[j]? = some o := ⟨_, List.getElem?_eq_getElem (by omega)⟩
    obtain ⟨x, hx⟩ : ∃ x, R[j]? = some x := ⟨_, List.getElem?_eq_getElem (by omega)⟩
    obtain ⟨⟨len, hfl⟩, h3, -⟩ := hf j o ho
    exact ((h.step j x o hx ho).gz (kind_cases hfl h3)).trans (Runs.gz h hf j (by omega))

/-- what impl.Rolled leaves -/
def RlPost (w : World) (bs : List UInt8) (L : List Op) (e : Ending) (w' : World) : Prop :=
  ∃ a1 c1 a2 c2 R S0 Ss, e = .returned (.tuple #[.slice a1 L.length c1, .slice a2 (Ss L.length).fb.length c2]) ∧ rdR w' a1 R ∧ S0.t = 0 ∧ S0.fb = bs ∧ Runs S0 L R Ss ∧ Rd (Old w') w' a2 (Ss L.length).fb.length (Ss L.length).fb ∧ Below w.heap.size w w' ∧ L.length ≤ c1 ∧ (Ss L.length).fb.length ≤ c2

set_option maxRecDepth 100000 in
set_option maxHeartbeats 4000000 in
theorem rolled_any (w : World) (bs : List UInt8) (L : List Op) (sa : Option Addr) (sn sc : Nat) (a : Option Addr) (n c : Nat) (va vb : Addr)
    (hs : Rd (Old w) w sa sn bs) (hL : L.length = n) (hn : n ≤ 1000000) (hnc : n ≤ c) (hrd : rdO (Old w) w a L) (hV : Vars (Old w) w va vb) (hfit : fitsR L) (hbs : bs.length ≤ 262144) :
    Calls Tryz.prog 6 #[.slice sa sn sc, .slice a n c] w (RlPost w bs L) := by
  have hsn := hs.1
  have CL := Lib.hid (clone_any (Old w) w sa sn sc bs (fun _ h => h) hs (by omega))
  have HRD := Lib.hid hrd
  have HV := Lib.hid hV
  have HF := Lib.hid hfit
  have HLN := Lib.hid hL
  have HSN := Lib.hid hsn
  clear hs hrd hV hfit hL hsn
  go_enter Tryz.func6, Tryz.ntmps6
  (repeat (first | go_values | go_skip | go_guarded | go_step | go_upon))
  refine CL.out.mono ?_
  rintro e w1 ⟨v, rfl, hrow, hk1, hown, -⟩
  obtain ⟨av, cv, rfl, -⟩ := hrow.slice
  have HROW := Lib.hid hrow
  have HK1 := Lib.hid hk1
  have HO := Lib.hid hown
  clear hrow hk1 hown CL
  dsimp only
  (repeat (first | go_values | go_skip | go_guarded | go_step | go_upon))
  refine (rollback_any _ _).mono ?_
  rintro e w2 ⟨rfl, hm0, hc0, hr0, hk2, hs2⟩
  have hs1 := HK1.out.size
  have sA : (w1.alloc (.cells #[.slice av sn cv, .int .i64 0, .pointer none, .bool false] 55)).heap.size = w1.heap.size + 1 := by simp
  have hz0 := (hk2.block w1.heap.size (show w1.heap.size < (w1.alloc (.cells #[.slice av sn cv, .int .i64 0, .pointer none, .bool false] 55)).heap.size by omega)).trans (heap_alloc_new w1 _)
  have hrw : Row (Old w) w2 5 1 (.slice av sn cv) sn (u8s bs) := (HROW.out.alloc _).kept fun k hk => hk2.block k (by have := ((HROW.out.alloc (.cells #[.slice av sn cv, .int .i64 0, .pointer none, .bool false] 55)).own hk).1; exact this)
  rw [sA] at hm0 hc0 hr0 hs2
  have hkk : Keeps (Old w) w w2 := (HK1.out.trans (Keeps.alloc (fun k (h : k < w.heap.size) => by omega) _)).trans (hk2.mono fun k (h : k < w.heap.size) => by show k < (w1.alloc _).heap.size; rw [sA]; omega)
  obtain ⟨tg0, tgo, tgr, tgn⟩ : ∃ tg0 : Nat → Nat × Nat, (∀ j, j < w.heap.size → tg0 j = (1000, 0)) ∧ (∀ j, w.heap.size ≤ j → (j = w1.heap.size + 1 + 1 ∨ j = w1.heap.size + 1 + 2) → tg0 j = (900, 0)) ∧ (∀ j, w.heap.size ≤ j → ¬ (j = w1.heap.size + 1 + 1 ∨ j = w1.heap.size + 1 + 2) → tg0 j = (0, 0)) :=
    ⟨fun j => if j < w.heap.size then (1000, 0) else if j = w1.heap.size + 1 + 1 ∨ j = w1.heap.size + 1 + 2 then (900, 0) else (0, 0), fun j h => if_pos h, fun j h h' => by dsimp only; rw [if_neg (by omega), if_pos h'], fun j h h' => by dsimp only; rw [if_neg (by omega), if_neg h']⟩
  have hmem : MemIs (fun j => (tg0 j).1 ≠ 0) w2 (w1.heap.size + 1) w1.heap.size (.slice av sn cv) bs := by
    refine ⟨⟨0, by omega, by omega, hm0⟩, hz0, fun h => h (by rw [tgn _ (by omega) (by omega)]), fun h => h (by rw [tgn _ (by omega) (by omega)]), ?_⟩
    rw [HSN.out]
    refine hrw.widen fun k hk h => h ?_
    have h1 := HO.out k hk
    have h2 := (HROW.out.own hk).1
    rw [tgn k h1 (by omega)]
  have hrb : RbIs 0 0 0 tg0 w2 (w1.heap.size + 1 + 2) (w1.heap.size + 1 + 1) ⟨w1.heap.size + 1, w1.heap.size, .slice av sn cv, bs, 0, fun _ => ⟨0, 0, 0, fun _ => none⟩⟩ va vb := by
    refine ⟨⟨none, hr0, fun h => absurd h (Nat.lt_irrefl 0)⟩, hc0, ⟨hmem, fun k h => absurd h (Nat.not_lt_zero k), ?_, Nat.zero_le _, fun k h => absurd h (Nat.not_lt_zero k)⟩, ?_, ?_, ?_⟩
    · show bs.length ≤ 299008
      omega
    · rw [tgr _ (by omega) (by omega)]
    · rw [tgr _ (by omega) (by omega)]
    · exact (HV.out.keeps hkk).mono fun j (hj : j < w.heap.size) => ⟨by have := hkk.size; omega, by rw [tgo j hj]; exact Nat.le_refl _⟩
  have HC := Lib.hid (rcalls_any (Old w) tg0 w2 (w1.heap.size + 1 + 2) (w1.heap.size + 1 + 1) _ L a n c va vb (fun k (hk : k < w.heap.size) => ⟨by have := hkk.size; omega, by rw [tgo k hk]; exact Nat.le_refl _⟩) HLN.out hn hnc (HRD.out.keeps hkk) HF.out hrb rfl)
  have HK2 := Lib.hid hkk
  clear hmem hrb hkk hrw hz0 sA hs1 hm0 hc0 hr0 hk2 hs2 tgo tgr tgn
  dsimp only
  (repeat (first | go_values | go_skip | go_guarded | go_step | go_upon))
  refine HC.out.mono ?_
  rintro e w3 ⟨vout, Y, R, tg, Ss, rfl, hD⟩
  have hmm := hD.rb.st.mem
  have hgz : (Ss L.length).gz = w1.heap.size := hD.run.gz HF.out _ (Nat.le_refl _)
  have hfz := hmm.fz
  rw [hgz] at hfz
  obtain ⟨b0, -⟩ := cells_at hfz
  have x0 := b0 0
  simp only [List.getElem?_toArray, List.getElem?_cons_zero] at x0
  obtain ⟨ao, co, rfl, hlo, -⟩ := hD.row.slice
  have hmr := hmm.row
  obtain ⟨am, cm, hvv, hlm, -⟩ := hmr.slice
  rw [hvv] at x0 hmr
  have HD := Lib.hid hD
  have HMR := Lib.hid hmr
  clear hD b0 HC hmm hgz hfz hmr hvv
  dsimp only
  (repeat (first | go_values | go_skip | go_guarded | go_step | go_upon))
  go_quiet (fail)
  (repeat (first | go_values | go_skip | go_guarded | go_step | go_upon))
  go_ret2
  have hD := HD.out
  have hkq := below_keeps (below_drewN w3 nq w3.heap.size)
  exact ⟨ao, co, am, cm, R, _, Ss, rfl, (rdR_of hD.row hD.run.len fun x hx => ⟨(hD.data x hx).1.mono hD.inY.1, (hD.data x hx).2⟩).keeps hkq, rfl, rfl, hD.run, HMR.out.rv.rd.keeps hkq, ((HK2.out.trans hD.keeps).below (B := w.heap.size) fun _ h => h).trans (below_drewN _ _ _), hlo, hlm⟩

end Go.Proofs.YtkkliejgmgmebaaGreatDoor
