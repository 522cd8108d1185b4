/-
  zzFits4, zzFits3, laws.calls.
-/
import Derived.Test.YtkkliejgmgmebaaGreatDoorMb
namespace Go.Proofs.YtkkliejgmgmebaaGreatDoor
open Go.RowKit

theorem zzFits4_any (w : World) (kind off size : Int) (a : Option Addr) (n c : Nat) : Calls Tryz.prog 10 #[.agg #[.int .i64 kind, .int .i64 off, .int .i64 size, .slice a n c]] w fun e w' => (∃ b, e = .returned (.bool b)) ∧ Keeps (Old w) w w' := by
  by_cases h : 2147483647 < n
  · go_enter Tryz.func10, Tryz.ntmps10
    (repeat (first | go_values | go_skip | go_guarded | go_step | go_upon))
    go_ret
    exact ⟨⟨_, rfl⟩, Keeps.alloc (fun _ h => h) _⟩
  · have h' : n ≤ 2147483647 := by omega
    clear h
    go_enter Tryz.func10, Tryz.ntmps10
    (repeat (first | go_values | go_skip | go_guarded | go_step | go_upon))
    go_ret
    exact ⟨⟨_, rfl⟩, Keeps.alloc (fun _ h => h) _⟩

noncomputable def body5 : Code := ((Tryz.f4.body.bind firstLoop).getD .skip)

structure frm5p (s8 s9 s10 : Value) (a : Act) : Prop where
  df : a.defers = []
  sz : a.tmps.size = 18
  h8 : a.tmps.getD 8 undef = s8
  h9 : a.tmps.getD 9 undef = s9
  h10 : a.tmps.getD 10 undef = s10
set_option maxRecDepth 100000 in
theorem frm5 {s8 s9 s10 : Value} {a : Act} (h : frm5p s8 s9 s10 a) : ∃ u : Nat → Value, a = ⟨#[u 0, u 1, u 2, u 3, u 4, u 5, u 6, u 7, s8, s9, s10, u 11, u 12, u 13, u 14, u 15, u 16, u 17], []⟩ := by
  obtain ⟨F, df⟩ := a
  obtain ⟨rfl, hs, rfl, rfl, rfl⟩ := h
  refine ⟨fun i => F.getD i undef, ?_⟩
  have e := open_frame F
  rw [hs] at e
  exact congrArg (Act.mk · []) e

theorem old_trans {w w' w'' : World} (h : Keeps (Old w) w w') (h' : Keeps (Old w') w' w'') : Keeps (Old w) w w'' := h.trans (h'.mono fun _ h1 => Nat.lt_of_lt_of_le h1 h.size)

set_option maxRecDepth 100000 in
set_option maxHeartbeats 4000000 in
theorem zzFits3_any (w : World) (a : Option Addr) (n c : Nat) (L : List Op) (hL : L.length = n) (hn : n ≤ 9223372036854775807) (hnc : n ≤ c) (hrd : rdO (Old w) w a L) :
    Calls Tryz.prog 4 #[.slice a n c] w fun e w' => (∃ b, e = .returned (.bool b)) ∧ Keeps (Old w) w w' := by
  by_cases h : 2147483647 < n
  · clear hrd
    go_enter Tryz.func4, Tryz.ntmps4
    (repeat (first | go_values | go_skip | go_guarded | go_step | go_upon))
    go_ret
    exact ⟨⟨_, rfl⟩, Keeps.refl _ _⟩
  · have h' : n ≤ 2147483647 := by omega
    have HRD := Lib.hid hrd
    have HLN := Lib.hid hL
    clear h hrd hL
    go_enter Tryz.func4, Tryz.ntmps4
    (repeat (first | go_values | go_skip | go_guarded | go_step | go_upon))
    refine wp_loop_ghost (fun k a' w' => ∃ i : Nat, k = n - i ∧ i ≤ n ∧ frm5p (.slice a n c) (.int .i64 (n : Int)) (.int .i64 (i : Int)) a' ∧ Keeps (Old w) w w') n ⟨0, rfl, Nat.zero_le _, ⟨rfl, rfl, rfl, rfl, rfl⟩, Keeps.refl _ _⟩ ?_
    rintro k a' w' ⟨i, rfl, hi, ha, hk⟩
    obtain ⟨u, rfl⟩ := frm5 ha
    clear ha
    have HK := Lib.hid hk
    by_cases hlt : i < n
    · obtain ⟨o, ho⟩ : ∃ o, L[i]? = some o := ⟨_, List.getElem?_eq_getElem (by rw [HLN.out]; exact hlt)⟩
      rcases HRD.out with h0 | ⟨b, off, rfl, hb, hc⟩
      · subst h0; cases ho
      have hop := (hc i o ho).keeps hb hk
      have x0 := hop.c0
      have x1 := hop.c1
      have x2 := hop.c2
      have x3 := hop.c3
      clear hop ho hc hk
      obtain ⟨kd, of, sz, oa, on, oc, od⟩ := o
      simp only at x0 x1 x2 x3
      (repeat (first | go_values | go_skip | go_guarded | go_step | go_upon))
      refine (zzFits4_any _ _ _ _ _ _ _).mono ?_
      rintro e w2 ⟨⟨b2, rfl⟩, hk2⟩
      have HK2 := Lib.hid (old_trans (old_trans HK.out (Keeps.alloc (fun _ h => h) _)) hk2)
      clear hk2
      dsimp only
      cases b2
      · (repeat (first | go_values | go_skip | go_guarded | go_step | go_upon))
        go_ret
        exact ⟨⟨_, rfl⟩, HK2.out⟩
      · (repeat (first | go_values | go_skip | go_guarded | go_step | go_upon))
        exact ⟨n - (i + 1), by omega, i + 1, rfl, by omega, ⟨rfl, rfl, rfl, rfl, by go_num⟩, HK2.out⟩
    · obtain rfl : i = n := by omega
      clear hk
      (repeat (first | go_values | go_skip | go_guarded | go_step | go_upon))
      go_ret
      exact ⟨⟨_, rfl⟩, HK.out⟩

noncomputable def body7 : Code := ((Tryz.f12.body.bind firstLoop).getD .skip)

structure frm7p (s3 s6 s7 s8 : Value) (a : Act) : Prop where
  df : a.defers = []
  sz : a.tmps.size = 26
  h3 : a.tmps.getD 3 undef = s3
  h6 : a.tmps.getD 6 undef = s6
  h7 : a.tmps.getD 7 undef = s7
  h8 : a.tmps.getD 8 undef = s8
set_option maxRecDepth 100000 in
theorem frm7 {s3 s6 s7 s8 : Value} {a : Act} (h : frm7p s3 s6 s7 s8 a) : ∃ u : Nat → Value, a = ⟨#[u 0, u 1, u 2, s3, u 4, u 5, s6, s7, s8, u 9, u 10, u 11, u 12, u 13, u 14, u 15, u 16, u 17, u 18, u 19, u 20, u 21, u 22, u 23, u 24, u 25], []⟩ := by
  obtain ⟨F, df⟩ := a
  obtain ⟨rfl, hs, rfl, rfl, rfl, rfl⟩ := h
  refine ⟨fun i => F.getD i undef, ?_⟩
  have e := open_frame F
  rw [hs] at e
  exact congrArg (Act.mk · []) e

abbrev Op.cells (x : Op) : List Value := [.int .i64 x.kind, .int .i64 x.off, .int .i64 x.size, .slice x.a x.n x.c]

theorem infoCall : (Tryz.prog.info? 47).map (fun i => (i.zero, i.size, i.bytes)) = some (some (.agg #[.int .i64 0, .int .i64 0, .int .i64 0, .slice none 0 0]), 4, 48) := by kernel_rfl

theorem flat_op : ∀ (R : List Op) (i : Nat) (x : Op) (j : Nat), j < 4 → R[i]? = some x → (R.flatMap Op.cells)[i * 4 + j]? = x.cells[j]?
  | y :: R, 0, x, j, hj, h => by
    simp only [List.getElem?_cons_zero, Option.some.injEq] at h
    subst h
    rw [List.flatMap_cons, Nat.zero_mul, Nat.zero_add, List.getElem?_append_left (by simpa using hj)]
  | y :: R, i + 1, x, j, hj, h => by
    have := flat_op R i x j hj (by simpa using h)
    rw [List.flatMap_cons, List.getElem?_append_right (by simp; omega), ← this]
    congr 1
    simp; omega

/-- what was laid between two worlds, and what was kept -/
abbrev Since (Pr : Nat → Prop) (w w' : World) : Nat → Prop := fun k => Pr k ∨ (w.heap.size ≤ k ∧ k < w'.heap.size)

theorem rdO_of {Pr : Nat → Prop} {w0 w : World} {a : Option Addr} {n c : Nat} {L : List Op} (h : Row (Old w0) w 47 4 (.slice a n c) n (L.flatMap Op.cells)) (hl : L.length = n) (hd : ∀ x ∈ L, Rd Pr w x.a x.n x.d ∧ x.n ≤ x.c ∧ x.c ≤ 9223372036854775807) : rdO (Since Pr w0 w) w a L := by
  rcases h.2 with ⟨h0, h1⟩ | ⟨g, cap, cur, hv, hp, hg, -⟩
  · subst h1
    exact .inl (List.eq_nil_of_length_eq_zero hl)
  · simp only [Value.slice.injEq, true_and] at hv
    obtain ⟨rfl, rfl⟩ := hv
    refine .inr ⟨g, 0, rfl, .inr ⟨Nat.le_of_not_lt hp, lt_of_heap hg⟩, fun i x hx => ?_⟩
    have hi : i < n := by have := (List.getElem?_eq_some_iff.1 hx).1; omega
    obtain ⟨d1, d2, d3⟩ := hd x (List.mem_of_getElem? hx)
    refine ⟨?_, ?_, ?_, ?_, d2, d3, d1.mono fun k h => .inl h⟩
    · rw [Nat.zero_add, h.cellAt _ (by omega)]; exact flat_op L i x 0 (by omega) hx
    · rw [Nat.zero_add, h.cellAt _ (by omega)]; exact flat_op L i x 1 (by omega) hx
    · rw [Nat.zero_add, h.cellAt _ (by omega)]; exact flat_op L i x 2 (by omega) hx
    · rw [Nat.zero_add, h.cellAt _ (by omega)]; exact flat_op L i x 3 (by omega) hx

set_option maxRecDepth 100000 in
set_option maxHeartbeats 4000000 in
theorem lcalls_any (Pr : Nat → Prop) (w : World) (a : Option Addr) (n c : Nat) (L : List Op) (hin : Inw Pr w) (hL : L.length = n) (hn : n ≤ 1000000) (hnc : n ≤ c) (hrd : rdO Pr w a L) :
    Calls Tryz.prog 12 #[.slice a n c] w fun e w' => ∃ a' c', e = .returned (.slice a' n c') ∧ n ≤ c' ∧ rdO (Since Pr w w') w' a' L ∧ Keeps (Old w) w w' := by
  obtain ⟨i0, hi0, hz0, hz1, hz2⟩ := info_parts infoCall
  have HRD := Lib.hid hrd
  have HLN := Lib.hid hL
  have HI := Lib.hid hin
  clear hrd hL hin
  go_enter Tryz.func12, Tryz.ntmps12
  (repeat (first | go_values | go_skip | go_guarded | go_step | go_upon))
  refine wp_loop_ghost (fun k a' w' => ∃ (i : Nat) (v : Value), k = n - i ∧ i ≤ n ∧ frm7p v (.slice a n c) (.int .i64 (n : Int)) (.int .i64 (i : Int)) a' ∧ Row (Old w) w' 47 4 v i ((L.take i).flatMap Op.cells) ∧ Keeps (Old w) w w') n ⟨0, .slice none 0 0, rfl, Nat.zero_le _, ⟨rfl, rfl, rfl, rfl, rfl, rfl⟩, by rw [List.take_zero]; exact Row.nil _ _ _ _, Keeps.refl _ _⟩ ?_
  rintro k a' w' ⟨i, v, rfl, hi, ha, hrow, hk⟩
  obtain ⟨u, rfl⟩ := frm7 ha
  clear ha
  have HK := Lib.hid hk
  have HROW := Lib.hid hrow
  by_cases hlt : i < n
  · obtain ⟨o, ho⟩ : ∃ o, L[i]? = some o := ⟨_, List.getElem?_eq_getElem (by rw [HLN.out]; exact hlt)⟩
    rcases HRD.out with h0 | ⟨b, off, rfl, hb, hc⟩
    · subst h0; cases ho
    have hop := (hc i o ho).keeps hb (hk.mono HI.out)
    have x0 := hop.c0
    have x1 := hop.c1
    have x2 := hop.c2
    have x3 := hop.c3
    have HT := Lib.hid (take_snoc ho)
    obtain ⟨av, cv, rfl, -⟩ := hrow.slice
    clear hop ho hc hk hrow
    obtain ⟨kd, of, sz, oa, on, oc, od⟩ := o
    simp only at x0 x1 x2 x3
    (repeat (first | (at_builtin; refine wpList_append_row rfl (.tmp 12) (.tmp 22) 45 rfl (Pr := Old w) (e := 47) (size := 4) (v := .slice av i cv) (n := i) (xs := (L.take i).flatMap Op.cells) ?cn i0 (.agg #[.int .i64 0, .int .i64 0, .int .i64 0, .slice none 0 0]) 48 Tryz.underlying45 hi0 hz0 hz1 hz2 rfl ?cr rfl ⟨w'.heap.size + 1, 0, none⟩ 1 1 rfl (Op.cells ⟨kd, of, sz, oa, on, oc, od⟩) rfl ?cs ?c1 ?c3 ?c4 ?_) | go_values | go_skip | go_guarded | go_step | go_upon))
    case cn => exact fun h => by have h' : _ < w.heap.size := h; have := HK.out.size; simp at h'; omega
    case cr => exact (HROW.out.alloc _).alloc _
    case cs =>
      intro j u hj
      have h1 := cell_newRow (w'.alloc (.cells #[.int .i64 kd, .int .i64 of, .int .i64 sz, .slice oa on oc] 42)) 47 (Op.cells ⟨kd, of, sz, oa, on, oc, od⟩) j
      rw [size_alloc'] at h1
      exact h1.trans hj
    case c1 => intro u hu; simp at hu; rcases hu with rfl | rfl | rfl | rfl <;> rfl
    case c3 => unfold maxLen; omega
    case c4 => omega
    intro v5 w5 hrow5 hg5 _
    have hk5 : Keeps (Old w) w w5 := (HK.out.trans ((Keeps.alloc (fun k (h : k < w.heap.size) => Nat.lt_of_lt_of_le h HK.out.size) _).trans (Keeps.alloc (fun k (h : k < w.heap.size) => by have := HK.out.size; simp; omega) _))).trans
      (Keeps.grown (fun k (h : k < w.heap.size) => by have := HK.out.size; simp; omega) hg5 fun k e h => (HROW.out.own e).2.1 h)
    have e : (L.take i).flatMap Op.cells ++ Op.cells ⟨kd, of, sz, oa, on, oc, od⟩ = (L.take (i + 1)).flatMap Op.cells := by rw [HT.out]; simp
    rw [e] at hrow5
    have HR5 := Lib.hid hrow5
    have HK5 := Lib.hid hk5
    obtain ⟨av5, cv5, rfl, -⟩ := hrow5.slice
    clear hrow5 hg5 hk5 e
    (repeat (first | go_values | go_skip | go_guarded | go_step | go_upon))
    exact ⟨n - (i + 1), by omega, i + 1, _, rfl, by omega, ⟨rfl, rfl, rfl, rfl, rfl, by go_num⟩, HR5.out, HK5.out⟩
  · obtain rfl : i = n := by omega
    rw [List.take_of_length_le (by rw [HLN.out]; exact Nat.le_refl _)] at hrow
    have HR2 := Lib.hid hrow
    obtain ⟨av, cv, rfl, hcv, -⟩ := hrow.slice
    clear hk hrow HROW
    (repeat (first | go_values | go_skip | go_guarded | go_step | go_upon))
    go_ret
    refine ⟨_, _, rfl, hcv, rdO_of HR2.out HLN.out fun x hx => ?_, HK.out⟩
    obtain ⟨j, hj⟩ := List.getElem?_of_mem hx
    rcases HRD.out with h0 | ⟨b, off, -, hb, hc⟩
    · subst h0; cases hj
    have hop := (hc j x hj).keeps hb (HK.out.mono HI.out)
    exact ⟨hop.rd, hop.nc, hop.cb⟩

end Go.Proofs.YtkkliejgmgmebaaGreatDoor

namespace Go.Proofs.YtkkliejgmgmebaaGreatDoor
open Go.RowKit

theorem memB_seven (a : Option Addr) (c : Nat) : memB [] [⟨0, 0, 0, a, 1, c, [7]⟩] = [7] := by
  simp [memB, mstep, wrB, splice]

set_option maxRecDepth 100000 in
set_option maxHeartbeats 4000000 in
theorem memory_any (w : World) (va vb : Addr) (hV : Vars (Old w) w va vb) : Calls Tryz.prog 9 #[] w fun e w' => e = .returned (.bool true) ∧ Below w.heap.size w w' := by
  have HV := Lib.hid hV
  clear hV
  go_enter Tryz.func9, Tryz.ntmps9
  (repeat (first | go_values | go_skip | go_guarded | go_step | go_upon))
  have hk : Keeps (Old w) w ((w.alloc (.cells #[.int .u8 7] 5)).alloc (.cells #[.int .i64 0, .int .i64 0, .int .i64 0, .slice (some ⟨w.heap.size, 0, none⟩) 1 1] 42)) :=
    (Keeps.alloc (fun _ h => h) _).trans (Keeps.alloc (fun k (h : k < w.heap.size) => by simp; omega) _)
  have hb : ((w.alloc (.cells #[.int .u8 7] 5)).alloc (.cells #[.int .i64 0, .int .i64 0, .int .i64 0, .slice (some ⟨w.heap.size, 0, none⟩) 1 1] 42)).heap[w.heap.size]? = _ := heap_alloc2_old _ _ _
  have hb2 : ((w.alloc (.cells #[.int .u8 7] 5)).alloc (.cells #[.int .i64 0, .int .i64 0, .int .i64 0, .slice (some ⟨w.heap.size, 0, none⟩) 1 1] 42)).heap[w.heap.size + 1]? = _ := heap_alloc2_new _ _ _
  have hs : ((w.alloc (.cells #[.int .u8 7] 5)).alloc (.cells #[.int .i64 0, .int .i64 0, .int .i64 0, .slice (some ⟨w.heap.size, 0, none⟩) 1 1] 42)).heap.size = w.heap.size + 2 := by simp
  generalize ((w.alloc (.cells #[.int .u8 7] 5)).alloc (.cells #[.int .i64 0, .int .i64 0, .int .i64 0, .slice (some ⟨w.heap.size, 0, none⟩) 1 1] 42)) = W2 at *
  have hold : ∀ k, k < w.heap.size → k < W2.heap.size := fun k h => by omega
  have hrd : rdO (Old W2) W2 (some ⟨w.heap.size + 1, 0, none⟩) [⟨0, 0, 0, some ⟨w.heap.size, 0, none⟩, 1, 1, [7]⟩] := by
    refine .inr ⟨w.heap.size + 1, 0, rfl, show w.heap.size + 1 < W2.heap.size by omega, fun i x hx => ?_⟩
    have hi : i = 0 := by
      have := (List.getElem?_eq_some_iff.1 hx).1
      simpa using this
    subst hi
    simp only [List.getElem?_cons_zero, Option.some.injEq] at hx
    subst hx
    obtain ⟨b0, -⟩ := cells_at hb2
    obtain ⟨b1, -⟩ := cells_at hb
    refine ⟨b0 0, b0 1, b0 2, b0 3, Nat.le_refl _, (by decide : (1 : Nat) ≤ 9223372036854775807), rfl, .inr ⟨w.heap.size, 0, rfl, show w.heap.size < W2.heap.size by omega, fun j y hy => ?_⟩⟩
    have hj : j = 0 := by
      have := (List.getElem?_eq_some_iff.1 hy).1
      simpa using this
    subst hj
    simp only [List.getElem?_cons_zero, Option.some.injEq] at hy
    subst hy
    exact b1 0
  have hc := memFile_any W2 [] [⟨0, 0, 0, some ⟨w.heap.size, 0, none⟩, 1, 1, [7]⟩] none 0 0 (some ⟨w.heap.size + 1, 0, none⟩) 1 1 va vb ⟨rfl, .inl rfl⟩ rfl (by omega) (Nat.le_refl _) hrd ((HV.out.keeps hk).mono hold) (fun o ho => by
    rw [List.mem_singleton] at ho
    subst ho
    exact ⟨0, (show fitsB 0 0 0 0 1 = true by decide)⟩) (by simp)
  refine hc.mono ?_
  rintro e w3 hp
  obtain ⟨a1, c1, a2, c2, R, rfl, -, -, hrd2, hbl, -, hc2⟩ := hp
  rw [memB_seven] at hrd2 hc2
  rcases hrd2.2 with h0 | ⟨b, o, rfl, -, hcell⟩
  · cases h0
  have x0 := hcell 0 7 rfl
  have HB := Lib.hid ((hk.below (B := w.heap.size) fun _ h => h).trans (hbl.mono (by omega)))
  have hl : (memB [] [⟨0, 0, 0, some ⟨w.heap.size, 0, none⟩, 1, 1, [7]⟩]).length = 1 := by rw [memB_seven]; rfl
  rw [hl]
  simp only [List.length_cons, List.length_nil, Nat.zero_add] at hc2 ⊢
  have x0' : w3.cell? ⟨b, o, none⟩ = some (.int .u8 7) := x0
  clear hc hrd hb hb2 hs hk hold hrd2 hbl hcell hl x0
  (repeat (first | go_values | go_skip | go_guarded | go_step | go_upon))
  go_ret
  exact ⟨rfl, HB.out⟩

end Go.Proofs.YtkkliejgmgmebaaGreatDoor
