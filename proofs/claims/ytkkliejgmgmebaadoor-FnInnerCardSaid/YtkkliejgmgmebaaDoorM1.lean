/-
  A file in memory: how it lies; Clone, lets, put.
-/
import Derived.Test.YtkkliejgmgmebaaDoorS10
import Derived.Deep.RegionLaw
namespace Go.Proofs.YtkkliejgmgmebaaDoor
open Go.RowKit

/-- append of zeros, as one step of a region that draws -/
theorem step_append_zeros {P : Program} {ops : Array Oper} {o : Oper} {a : Act} {w : World} {K : Act → World → Prop} {Q : Exit → Act → World → Prop} {E : Prop}
    (hg : o.guard = none) (s x : Operand) (t ti : TypeId) (hop : o.op = Op.call { callee := Callee.builtin Builtin.append, args := #[s, x], argTypes := #[t, ti] })
    {Pr : Nat → Prop} {e : TypeId} {v : Value} {n : Nat} {xs : List Value} (hnew : ¬ Pr w.heap.size) (ik : IntKind) (i : TypeInfo) (z : Value) (ht : P.underlying t = some (.slice e)) (hti : P.underlying ti = some (.int ik)) (hi : P.info? e = some i) (hz : i.zero = some z)
    (hsize : i.size = 1) (hby : i.bytes = 1) (hzs : z.cells = #[z]) (h1 : z.oneCell' = true) (hrow : Row Pr w e 1 v n xs) (m : Nat) (hs : a.eval s = v) (hx : a.eval x = .int .i64 (m : Int)) (hnm : n + m ≤ 140737488355328)
    (hK : ∀ v' w', Row Pr w' e 1 v' (n + m) (xs ++ List.replicate m z) → w.grownBy w' v.ownBlock → K (a.put o.dst v') w') :
    if Region.wanted o (yielded ops a.tmps) = true then Oper.wp P o a w K Q else E := by
  have hw : Region.wanted o (yielded ops a.tmps) = true := by simp [Region.wanted, hg]
  rw [if_pos hw]
  obtain ⟨v', w', hr, h2, h3, -⟩ := run_append_zeros (P := P) hnew t ti o.type ik i z ht hti hi hz hsize hby hzs h1 hrow m hnm
  unfold Oper.wp
  simp [execOp, hop, resolve, invoke, builtin, hs, hx, hr, Result.andThen]
  exact hK v' w' h2 h3

/-- an append of what reads somewhere, one cell an element -/
theorem run_append_rv {P : Program} {Pr Pq : Nat → Prop} {w : World} {e : TypeId} {v : Value} {n : Nat} {xs : List Value} (hnew : ¬ Pr w.heap.size) (t ty : TypeId) (i : TypeInfo) (z : Value) (bytes : Nat) (ht : P.underlying t = some (.slice e)) (hi : P.info? e = some i) (hz : i.zero = some z)
    (hsize : i.size = 1) (hby : i.bytes = bytes) (hzs : z.cells.size = 1) (hrow : Row Pr w e 1 v n xs) (b : Option Addr) (m c : Nat) (news : List Value) (hr : Rv Pq w b m news) (h1 : ∀ u ∈ news, u.oneCell' = true)
    (h63 : n + m ≤ maxLen) (hbytes : (n + m) * bytes ≤ 140737488355328) :
    ∃ v' w', (Builtin.append_ #[t, t] ty #[v, .slice b m c]).run P w = .ok v' w' ∧ Row Pr w' e 1 v' (n + m) (xs ++ news) ∧ w.grownBy w' v.ownBlock ∧ (v'.ownBlock = v.ownBlock ∨ v'.ownBlock = some w.heap.size) := by
  rcases hr.2 with h0 | ⟨bb, o, rfl, -, hc⟩
  · subst h0
    obtain rfl : m = 0 := hr.1.symm
    obtain ⟨va, vc, rfl, h2, -, h3⟩ := hrow.slice
    refine ⟨_, w, run_append_none w t ty e i ht hi va n vc h2 h3 b c, by simpa using hrow, ⟨rfl, rfl, rfl, Nat.le_refl _, fun _ _ _ => rfl⟩, .inl rfl⟩
  · refine run_append_row hnew t ty i z bytes ht hi hz hsize hby hzs hrow ⟨bb, o, none⟩ m c news (by rw [hr.1, Nat.mul_one]) (fun j u hu => ?_) h1 h63 hbytes
    have ha : (⟨bb, o, none⟩ : Addr).add j = ⟨bb, o + j, none⟩ := by unfold Addr.add; split <;> simp_all
    rw [ha]
    exact hc j u hu

theorem wpList_append_rv {P : Program} {ops : Array Oper} {rest : List Oper} {o : Oper} {a : Act} {Q : Exit → Act → World → Prop} {w : World} (hgd : o.guard = none) (s x : Operand) (t : TypeId)
    (ho : o.op = .call { callee := .builtin .append, args := #[s, x], argTypes := #[t, t] })
    {Pr Pq : Nat → Prop} {e : TypeId} {v : Value} {n : Nat} {xs : List Value} (hnew : ¬ Pr w.heap.size) (i : TypeInfo) (z : Value) (bytes : Nat) (ht : P.underlying t = some (.slice e)) (hi : P.info? e = some i) (hz : i.zero = some z)
    (hsize : i.size = 1) (hby : i.bytes = bytes) (hzs : z.cells.size = 1) (hrow : Row Pr w e 1 v n xs) (hs : a.eval s = v) (b : Option Addr) (m c : Nat) (hx : a.eval x = .slice b m c) (news : List Value) (hr : Rv Pq w b m news) (h1 : ∀ u ∈ news, u.oneCell' = true)
    (h63 : n + m ≤ maxLen) (hbytes : (n + m) * bytes ≤ 140737488355328)
    (h : ∀ v' w', Row Pr w' e 1 v' (n + m) (xs ++ news) → w.grownBy w' v.ownBlock → (v'.ownBlock = v.ownBlock ∨ v'.ownBlock = some w.heap.size) → wpList P ops Q rest (a.put o.dst v') w') : wpList P ops Q (o :: rest) a w := by
  refine wpList_plain hgd fun K hK => ?_
  obtain ⟨v', w', hrun, h2, h3, h4⟩ := run_append_rv (P := P) hnew t o.type i z bytes ht hi hz hsize hby hzs hrow b m c news hr h1 h63 hbytes
  unfold Oper.wp
  simp [execOp, ho, resolve, invoke, builtin, hs, hx, hrun, Result.andThen]
  exact hK _ _ (h v' w' h2 h3 h4)

theorem splice_take {α : Type} (cur : List α) (off l : Nat) (cs : List α) (h : off + cs.length ≤ l) (hl : l ≤ cur.length) : (splice cur off cs).take l = splice (cur.take l) off cs := by
  have e : (cur.take l).length = l := by rw [List.length_take]; omega
  apply List.ext_getElem?
  intro j
  rw [splice_get _ _ _ (by omega)]
  by_cases hj : j < l
  · rw [List.getElem?_take_of_lt hj, splice_get _ _ _ (by omega), List.getElem?_take_of_lt hj]
  · rw [List.getElem?_eq_none (by rw [List.length_take]; omega), if_neg (by omega), if_neg (by omega), List.getElem?_eq_none (by omega)]

/-- A COPY into an owned row of what reads somewhere -/
theorem run_copy_rv {P : Program} {Pr Pq : Nat → Prop} {w : World} {e : TypeId} {g l c off dl dcap : Nat} {xs : List Value} (hrow : Row Pr w e 1 (.slice (some ⟨g, 0, none⟩) l c) l xs) (dT sT ty : TypeId) (hu : P.underlying dT = some (.slice e)) (hs : (P.info? e).map (·.size) = some 1)
    (hoff : off + dl ≤ l) (b : Option Addr) (m cc : Nat) (news : List Value) (hr : Rv Pq w b m news) (h1 : ∀ u ∈ news, u.oneCell' = true) (hpos : 0 < min m dl) :
    ∃ w', (Builtin.copy_ #[dT, sT] ty #[.slice (some ⟨g, off, none⟩) dl dcap, .slice b m cc]).run P w = .ok (goInt ((min m dl : Nat) : Int)) w' ∧ Row Pr w' e 1 (.slice (some ⟨g, 0, none⟩) l c) l (splice xs off (news.take (min m dl))) ∧ w.grownBy w' (some g) := by
  rcases hr.2 with h0 | ⟨bb, o, rfl, -, hc⟩
  · subst h0; have : 0 = m := hr.1; omega
  have hlen : (news.take (min m dl)).length = min m dl := by rw [List.length_take, hr.1]; omega
  rcases hrow.2 with ⟨h0, -⟩ | ⟨g', cap, cur, hv, hp, hg, h2, h3, h4, h5⟩
  · cases h0
  simp only [Value.slice.injEq, Option.some.injEq, Addr.mk.injEq, true_and, and_true] at hv
  obtain ⟨rfl, rfl⟩ := hv
  have hrun := run_copy_row P w dT sT ty e g off dl dcap ⟨bb, o, none⟩ m cc cur e (news.take (min m dl)) hu hs hg hlen (fun j v hv => by
    have hj : j < min m dl := by
      have := (List.getElem?_eq_some_iff.1 hv).1
      omega
    rw [List.getElem?_take_of_lt hj] at hv
    have ha : (⟨bb, o, none⟩ : Addr).add j = ⟨bb, o + j, none⟩ := by unfold Addr.add; split <;> simp_all
    rw [ha]
    exact hc j v hv) (by rw [hlen]; omega) (fun v hv => h1 v (List.mem_of_mem_take hv))
  rw [hlen] at hrun
  refine ⟨_, hrun, ⟨?_, .inr ⟨g, c, _, rfl, hp, setRow_heap w g cur _ e _ hg, h2, h3, ?_, ?_⟩⟩, ⟨rfl, rfl, rfl, by simp, fun k hk hne => setRow_other w g k _ (fun e => hne (by rw [e]))⟩⟩
  · rw [splice_length _ _ _ (by rw [hlen, hrow.1]; omega)]; exact hrow.1
  · simp only [List.size_toArray, List.length_append, List.length_take, List.length_drop, Array.length_toList, hr.1]
    omega
  · rw [← h5, Nat.mul_one]
    have e2 : (cur.toList.take off ++ news.take (min m dl) ++ cur.toList.drop (off + min m dl)) = splice cur.toList off (news.take (min m dl)) := by
      unfold splice; rw [hlen]
    rw [e2]
    exact splice_take _ _ _ _ (by rw [hlen]; omega) (by rw [Array.length_toList]; omega)

theorem wpList_copy_rv {P : Program} {ops : Array Oper} {rest : List Oper} {o : Oper} {a : Act} {Q : Exit → Act → World → Prop} {w : World} (hgd : o.guard = none) (d s : Operand) (dT sT : TypeId)
    (ho : o.op = .call { callee := .builtin .copy, args := #[d, s], argTypes := #[dT, sT] })
    {Pr Pq : Nat → Prop} {e : TypeId} {g l c off dl dcap : Nat} {xs : List Value} (hrow : Row Pr w e 1 (.slice (some ⟨g, 0, none⟩) l c) l xs) (hu : P.underlying dT = some (.slice e)) (hsz : (P.info? e).map (·.size) = some 1)
    (hd : a.eval d = .slice (some ⟨g, off, none⟩) dl dcap) (hoff : off + dl ≤ l) (b : Option Addr) (m cc : Nat) (hs : a.eval s = .slice b m cc) (news : List Value) (hr : Rv Pq w b m news) (h1 : ∀ u ∈ news, u.oneCell' = true) (hpos : 0 < min m dl)
    (h : ∀ w', Row Pr w' e 1 (.slice (some ⟨g, 0, none⟩) l c) l (splice xs off (news.take (min m dl))) → w.grownBy w' (some g) → wpList P ops Q rest (a.put o.dst (goInt ((min m dl : Nat) : Int))) w') : wpList P ops Q (o :: rest) a w := by
  refine wpList_plain hgd fun K hK => ?_
  obtain ⟨w', hrun, h2, h3⟩ := run_copy_rv (P := P) hrow dT sT o.type hu hsz hoff (dcap := dcap) b m cc news hr h1 hpos
  unfold Oper.wp
  simp [execOp, ho, resolve, invoke, builtin, hd, hs, hrun, Result.andThen]
  exact hK _ _ (h w' h2 h3)

theorem one_u8s (bs : List UInt8) : ∀ u ∈ u8s bs, u.oneCell' = true := fun u hu => by
  obtain ⟨y, -, rfl⟩ := List.mem_map.1 hu
  rfl
theorem one_bls (bs : List Bool) : ∀ u ∈ bls bs, u.oneCell' = true := fun u hu => by
  obtain ⟨y, -, rfl⟩ := List.mem_map.1 hu
  rfl

/-- a file in memory, behind a MemFiler -/
structure MemIs (Pr : Nat → Prop) (w : World) (gm gz : Nat) (v : Value) (bs : List UInt8) : Prop where
  fm : ∃ nest : Int, -9223372036854775808 ≤ nest ∧ nest ≤ 9223372036854775807 ∧ w.heap[gm]? = some (.cells #[.pointer (some ⟨gz, 0, none⟩), .int .i64 nest] 67 (0, 0))
  fz : w.heap[gz]? = some (.cells #[v, .int .i64 0, .pointer none, .bool false] 55 (0, 0))
  nm : ¬ Pr gm
  nz : ¬ Pr gz
  row : Row Pr w 5 1 v bs.length (u8s bs)

/-- the file alone -/
structure ZIs (Pr : Nat → Prop) (w : World) (gz : Nat) (v : Value) (bs : List UInt8) : Prop where
  fz : w.heap[gz]? = some (.cells #[v, .int .i64 0, .pointer none, .bool false] 55 (0, 0))
  nz : ¬ Pr gz
  row : Row Pr w 5 1 v bs.length (u8s bs)

theorem ZIs.cells {Pr : Nat → Prop} {w : World} {gz : Nat} {v : Value} {bs : List UInt8} (h : ZIs Pr w gz v bs) :
    w.cell? ⟨gz, 0, none⟩ = some v ∧ w.cell? ⟨gz, 2, none⟩ = some (.pointer none) ∧ w.frozen? ⟨gz, 0, none⟩ = false := by
  obtain ⟨h1, h2⟩ := cells_at h.fz
  exact ⟨h1 0, h1 2, h2 0⟩

theorem ZIs.widen {Pr Pr' : Nat → Prop} {w : World} {gz : Nat} {v : Value} {bs : List UInt8} (h : ZIs Pr w gz v bs) (hp : ∀ k, k < w.heap.size → ¬ Pr k → ¬ Pr' k) : ZIs Pr' w gz v bs :=
  ⟨h.fz, hp _ (lt_of_heap h.fz) h.nz, h.row.widen fun k hk => hp k (h.row.own hk).1 (h.row.own hk).2.1⟩
theorem ZIs.kept {Pr Pr2 : Nat → Prop} {w w' : World} {gz : Nat} {v : Value} {bs : List UInt8} (h : ZIs Pr w gz v bs) (hk : Keeps Pr2 w w') (hp : ∀ k, k < w.heap.size → ¬ Pr k → Pr2 k) : ZIs Pr w' gz v bs :=
  ⟨(hk.block _ (hp _ (lt_of_heap h.fz) h.nz)).trans h.fz, h.nz, h.row.kept fun k hk' => hk.block k (hp k (h.row.own hk').1 (h.row.own hk').2.1)⟩

theorem lets_any (w : World) (gz : Nat) (n : Int) (c2 : w.cell? ⟨gz, 2, none⟩ = some (.pointer none)) :
    Calls Tryd.prog 48 #[.pointer (some ⟨gz, 0, none⟩), .int .i64 n] w fun e w' => e = .returned (.tuple #[.int .i64 n, .nilIface]) ∧ w' = w := by
  go_enter Tryd.func48, Tryd.ntmps48
  (repeat (first | go_values | go_skip | go_guarded | go_step | go_upon))
  go_ret2
  exact ⟨rfl, rfl⟩

/-- a clone of bytes: nil, or a slice in a block of its own -/
theorem clone_any (Pr : Nat → Prop) (w : World) (a : Option Addr) (n c : Nat) (bs : List UInt8) (hin : Inw Pr w) (hr : Rd Pr w a n bs) (hn : n ≤ 100000000) :
    Calls Tryd.prog 19 #[.slice a n c] w fun e w' => ∃ v, e = .returned v ∧ Row Pr w' 5 1 v n (u8s bs) ∧ Keeps Pr w w' ∧ (∀ k, v.ownBlock = some k → w.heap.size ≤ k) ∧ Keeps (Old w) w w' := by
  have qT : ∀ (w : World) (a : Option Addr) (n c n' c' : Nat), (binOp .eql 22 (.slice a n c) (.slice none n' c')).run Tryd.prog w = .ok (.bool a.isNone) w := fun w a n c n' c' => Lib.run_eql_slice_nil w _ _ a n c n' c' Tryd.underlying22
  cases a with
  | none =>
    have h0 : bs = [] := by
      rcases hr.2 with h | ⟨b, o, h, -⟩
      · exact h
      · cases h
    have hn0 : n = 0 := by rw [← hr.1, h0]; rfl
    subst h0 hn0
    clear hr
    go_enter Tryd.func19, Tryd.ntmps19
    (repeat (first | go_values | go_skip | go_guarded | go_step | go_upon))
    go_ret
    exact ⟨_, rfl, Row.nil _ _ _ _, Keeps.refl _ _, fun k h => (by cases h), Keeps.refl _ _⟩
  | some ad =>
    obtain ⟨i0, hi, hz0, hz1, hz2⟩ := info_parts infoU8
    have HR := Lib.hid hr
    have HI := Lib.hid hin
    clear hr hin
    go_enter Tryd.func19, Tryd.ntmps19
    (repeat (first | (at_builtin; refine wpList_append_rv rfl (.tmp 5) (.tmp 6) 22 rfl (Pr := Pr) (Pq := Pr) (e := 5) (v := .slice (some ⟨w.heap.size, 0, none⟩) 0 0) (n := 0) (xs := []) ?cn i0 _ 1 Tryd.underlying22 hi hz0 hz1 hz2 rfl ?cr rfl _ n c rfl (u8s bs) ?cs (one_u8s bs) ?c3 ?c4 ?_) | go_values | go_skip | go_guarded | go_step | go_upon))
    case cn => exact (HI.out.mono (by simp)).new
    case cr => exact Row.new Pr w HI.out.new #[] 0 0 (Nat.le_refl _) (by decide) (by simp) rfl
    case cs => exact (HR.out.keeps (Keeps.alloc HI.out _)).rv
    case c3 => unfold maxLen; omega
    case c4 => omega
    intro v' w1 hrow hgrow hown
    rw [Nat.zero_add, List.nil_append] at hrow
    have hown2 : ∀ k, v'.ownBlock = some k → w.heap.size ≤ k := fun k hk => by
      rcases hown with h | h
      · rw [h] at hk; simp [Value.ownBlock] at hk; omega
      · rw [h] at hk; simp at hk; omega
    have hk : Keeps (Old w) w w1 := ⟨hgrow.os, hgrow.tape, hgrow.output, Nat.le_trans (by simp) hgrow.size, fun k hk => (hgrow.block k (by simp; have : k < w.heap.size := hk; omega) (fun e => by simp [Value.ownBlock] at e; have : k < w.heap.size := hk; omega)).trans (heap_alloc_lt _ _ hk)⟩
    have HROW := Lib.hid hrow
    have HK := Lib.hid hk
    have HO := Lib.hid hown2
    obtain ⟨va, vc, rfl, -⟩ := hrow.slice
    clear hrow hgrow hown hown2 hk
    (repeat (first | go_values | go_skip | go_guarded | go_step | go_upon))
    go_ret
    exact ⟨_, rfl, HROW.out, HK.out.mono HI.out, HO.out, HK.out⟩

end Go.Proofs.YtkkliejgmgmebaaDoor
