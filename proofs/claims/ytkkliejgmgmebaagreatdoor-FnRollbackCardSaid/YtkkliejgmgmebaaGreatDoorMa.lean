/-
  A file in memory: how it lies; Clone, lets, put.
-/
import Derived.Test.YtkkliejgmgmebaaGreatDoorSc
import Derived.Deep.RegionLaw
import Derived.LaidEql
namespace Go.Proofs.YtkkliejgmgmebaaGreatDoor
open Go.RowKit

/-- append of zeros, as one step of a region that draws -/
theorem step_append_zeros {P : Program} {ops : Array Oper} {o : Oper} {a : Act} {w : World} {K : Act → World → Prop} {Q : Exit → Act → World → Prop} {E : Prop}
    (hg : o.guard = none) (s x : Operand) (t ti : TypeId) (hop : o.op = Op.call { callee := Callee.builtin Builtin.append, args := #[s, x], argTypes := #[t, ti] })
    {Pr : Nat → Prop} {e : TypeId} {v : Value} {n : Nat} {xs : List Value} (hnew : ¬ Pr w.heap.size) (ik : IntKind) (i : TypeInfo) (z : Value) (ht : P.underlying t = some (.slice e)) (hti : P.underlying ti = some (.int ik)) (hi : P.info? e = some i) (hz : i.zero = some z)
    (hsize : i.size = 1) (hby : i.bytes = 1) (hzs : z.cells = #[z]) (h1 : z.oneCell' = true) (hrow : Row Pr w e 1 v n xs) (m : Nat) (hs : a.eval s = v) (hx : a.eval x = .int .i64 (m : Int)) (hnm : n + m ≤ 140737488355328)
    (hK : ∀ v' w', Row Pr w' e 1 v' (n + m) (xs ++ List.replicate m z) → w.grownBy w' v.ownBlock → K (a.put o.dst v') w') :
    if Region.wanted o (yielded ops a.tmps) = true then Oper.wp P o a w K Q else E := by
  have hw : Region.wanted o (yielded ops a.tmps) = true := by simp [Region.wanted, hg]
  rw [if_pos hw]
  obtain ⟨v', w', hr, h2, h3, -⟩ := run_append_zeros (P := P) hnew t ti o.type ik i z ht hti hi hz hsize hby hzs h1 hrow m hnm
  unfold Oper.wp
  simp [execOp, hop, resolve, invoke, builtin, hs, hx, hr, Result.andThen]
  exact hK v' w' h2 h3

/-- an append of what reads somewhere, one cell an element -/
theorem run_append_rv {P : Program} {Pr Pq : Nat → Prop} {w : World} {e : TypeId} {v : Value} {n : Nat} {xs : List Value} (hnew : ¬ Pr w.heap.size) (t ty : TypeId) (i : TypeInfo) (z : Value) (bytes : Nat) (ht : P.underlying t = some (.slice e)) (hi : P.info? e = some i) (hz : i.zero = some z)
    (hsize : i.size = 1) (hby : i.bytes = bytes) (hzs : z.cells.size = 1) (hrow : Row Pr w e 1 v n xs) (b : Option Addr) (m c : Nat) (news : List Value) (hr : Rv Pq w b m news) (h1 : ∀ u ∈ news, u.oneCell' = true)
    (h63 : n + m ≤ maxLen) (hbytes : (n + m) * bytes ≤ 140737488355328) :
    ∃ v' w', (Builtin.append_ #[t, t] ty #[v, .slice b m c]).run P w = .ok v' w' ∧ Row Pr w' e 1 v' (n + m) (xs ++ news) ∧ w.grownBy w' v.ownBlock ∧ (v'.ownBlock = v.ownBlock ∨ v'.ownBlock = some w.heap.size) := by
  rcases hr.2 with h0 | ⟨bb, o, rfl, -, hc⟩
  · subst h0
    obtain rfl : m = 0 := hr.1.symm
    obtain ⟨va, vc, rfl, h2, -, h3⟩ := hrow.slice
    refine ⟨_, w, run_append_none w t ty e i ht hi va n vc h2 h3 b c, by simpa using hrow, ⟨rfl, rfl, rfl, Nat.le_refl _, fun _ _ _ => rfl⟩, .inl rfl⟩
  · refine run_append_row hnew t ty i z bytes ht hi hz hsize hby hzs hrow ⟨bb, o, none⟩ m c news (by rw [hr.1, Nat.mul_one]) (fun j u hu => ?_) h1 h63 hbytes
    have ha : (⟨bb, o, none⟩ : Addr).add j = ⟨bb, o + j, none⟩ := by unfold Addr.add; split <;> simp_all
    rw [ha]
    exact hc j u hu

theorem wpList_append_rv {P : Program} {ops : Array Oper} {rest : List Oper} {o : Oper} {a : Act} {Q : Exit → Act → World → Prop} {w : World} (hgd : o.guard = none) (s x : Operand) (t : TypeId)
    (ho : o.op = .call { callee := .builtin .append, args := #[s, x], argTypes := #[t, t] })
    {Pr Pq : Nat → Prop} {e : TypeId} {v : Value} {n : Nat} {xs : List Value} (hnew : ¬ Pr w.heap.size) (i : TypeInfo) (z : Value) (bytes : Nat) (ht : P.underlying t = some (.slice e)) (hi : P.info? e = some i) (hz : i.zero = some z)
    (hsize : i.size = 1) (hby : i.bytes = bytes) (hzs : z.cells.size = 1) (hrow : Row Pr w e 1 v n xs) (hs : a.eval s = v) (b : Option Addr) (m c : Nat) (hx : a.eval x = .slice b m c) (news : List Value) (hr : Rv Pq w b m news) (h1 : ∀ u ∈ news, u.oneCell' = true)
    (h63 : n + m ≤ maxLen) (hbytes : (n + m) * bytes ≤ 140737488355328)
    (h : ∀ v' w', Row Pr w' e 1 v' (n + m) (xs ++ news) → w.grownBy w' v.ownBlock → (v'.ownBlock = v.ownBlock ∨ v'.ownBlock = some w.heap.size) → wpList P ops Q rest (a.put o.dst v') w') : wpList P ops Q (o :: rest) a w := by
  refine wpList_plain hgd fun K hK => ?_
  obtain ⟨v', w', hrun, h2, h3, h4⟩ := run_append_rv (P := P) hnew t o.type i z bytes ht hi hz hsize hby hzs hrow b m c news hr h1 h63 hbytes
  unfold Oper.wp
  simp [execOp, ho, resolve, invoke, builtin, hs, hx, hrun, Result.andThen]
  exact hK _ _ (h v' w' h2 h3 h4)

theorem splice_take {α : Type} (cur : List α) (off l : Nat) (cs : List α) (h : off + cs.length ≤ l) (hl : l ≤ cur.length) : (splice cur off cs).take l = splice (cur.take l) off cs := by
  have e : (cur.take l).length = l := by rw [List.length_take]; omega
  apply List.ext_getElem?
  intro j
  rw [splice_get _ _ _ (by omega)]
  by_cases hj : j < l
  · rw [List.getElem?_take_of_lt hj, splice_get _ _ _ (by omega), List.getElem?_take_of_lt hj]
  · rw [List.getElem?_eq_none (by rw [List.length_take]; omega), if_neg (by omega), if_neg (by omega), List.getElem?_eq_none (by omega)]

/-- A COPY into an owned row of what reads somewhere -/
theorem run_copy_rv {P : Program} {Pr Pq : Nat → Prop} {w : World} {e : TypeId} {g l c off dl dcap : Nat} {xs : List Value} (hrow : Row Pr w e 1 (.slice (some ⟨g, 0, none⟩) l c) l xs) (dT sT ty : TypeId) (hu : P.underlying dT = some (.slice e)) (hs : (P.info? e).map (·.size) = some 1)
    (hoff : off + dl ≤ l) (b : Option Addr) (m cc : Nat) (news : List Value) (hr : Rv Pq w b m news) (h1 : ∀ u ∈ news, u.oneCell' = true) (hpos : 0 < min m dl) :
    ∃ w', (Builtin.copy_ #[dT, sT] ty #[.slice (some ⟨g, off, none⟩) dl dcap, .slice b m cc]).run P w = .ok (goInt ((min m dl : Nat) : Int)) w' ∧ Row Pr w' e 1 (.slice (some ⟨g, 0, none⟩) l c) l (splice xs off (news.take (min m dl))) ∧ w.grownBy w' (some g) := by
  rcases hr.2 with h0 | ⟨bb, o, rfl, -, hc⟩
  · subst h0; have : 0 = m := hr.1; omega
  have hlen : (news.take (min m dl)).length = min m dl := by rw [List.length_take, hr.1]; omega
  rcases hrow.2 with ⟨h0, -⟩ | ⟨g', cap, cur, hv, hp, hg, h2, h3, h4, h5⟩
  · cases h0
  simp only [Value.slice.injEq, Option.some.injEq, Addr.mk.injEq, true_and, and_true] at hv
  obtain ⟨rfl, rfl⟩ := hv
  have hrun := run_copy_row P w dT sT ty e g off dl dcap ⟨bb, o, none⟩ m cc cur e (news.take (min m dl)) hu hs hg hlen (fun j v hv => by
    have hj : j < min m dl := by
      have := (List.getElem?_eq_some_iff.1 hv).1
      omega
    rw [List.getElem?_take_of_lt hj] at hv
    have ha : (⟨bb, o, none⟩ : Addr).add j = ⟨bb, o + j, none⟩ := by unfold Addr.add; split <;> simp_all
    rw [ha]
    exact hc j v hv) (by rw [hlen]; omega) (fun v hv => h1 v (List.mem_of_mem_take hv))
  rw [hlen] at hrun
  refine ⟨_, hrun, ⟨?_, .inr ⟨g, c, _, rfl, hp, setRow_heap w g cur _ e _ hg, h2, h3, ?_, ?_⟩⟩, ⟨rfl, rfl, rfl, by simp, fun k hk hne => setRow_other w g k _ (fun e => hne (by rw [e]))⟩⟩
  · rw [splice_length _ _ _ (by rw [hlen, hrow.1]; omega)]; exact hrow.1
  · simp only [List.size_toArray, List.length_append, List.length_take, List.length_drop, Array.length_toList, hr.1]
    omega
  · rw [← h5, Nat.mul_one]
    have e2 : (cur.toList.take off ++ news.take (min m dl) ++ cur.toList.drop (off + min m dl)) = splice cur.toList off (news.take (min m dl)) := by
      unfold splice; rw [hlen]
    rw [e2]
    exact splice_take _ _ _ _ (by rw [hlen]; omega) (by rw [Array.length_toList]; omega)

theorem wpList_copy_rv {P : Program} {ops : Array Oper} {rest : List Oper} {o : Oper} {a : Act} {Q : Exit → Act → World → Prop} {w : World} (hgd : o.guard = none) (d s : Operand) (dT sT : TypeId)
    (ho : o.op = .call { callee := .builtin .copy, args := #[d, s], argTypes := #[dT, sT] })
    {Pr Pq : Nat → Prop} {e : TypeId} {g l c off dl dcap : Nat} {xs : List Value} (hrow : Row Pr w e 1 (.slice (some ⟨g, 0, none⟩) l c) l xs) (hu : P.underlying dT = some (.slice e)) (hsz : (P.info? e).map (·.size) = some 1)
    (hd : a.eval d = .slice (some ⟨g, off, none⟩) dl dcap) (hoff : off + dl ≤ l) (b : Option Addr) (m cc : Nat) (hs : a.eval s = .slice b m cc) (news : List Value) (hr : Rv Pq w b m news) (h1 : ∀ u ∈ news, u.oneCell' = true) (hpos : 0 < min m dl)
    (h : ∀ w', Row Pr w' e 1 (.slice (some ⟨g, 0, none⟩) l c) l (splice xs off (news.take (min m dl))) → w.grownBy w' (some g) → wpList P ops Q rest (a.put o.dst (goInt ((min m dl : Nat) : Int))) w') : wpList P ops Q (o :: rest) a w := by
  refine wpList_plain hgd fun K hK => ?_
  obtain ⟨w', hrun, h2, h3⟩ := run_copy_rv (P := P) hrow dT sT o.type hu hsz hoff (dcap := dcap) b m cc news hr h1 hpos
  unfold Oper.wp
  simp [execOp, ho, resolve, invoke, builtin, hd, hs, hrun, Result.andThen]
  exact hK _ _ (h w' h2 h3)

theorem one_u8s (bs : List UInt8) : ∀ u ∈ u8s bs, u.oneCell' = true := fun u hu => by
  obtain ⟨y, -, rfl⟩ := List.mem_map.1 hu
  rfl
theorem one_bls (bs : List Bool) : ∀ u ∈ bls bs, u.oneCell' = true := fun u hu => by
  obtain ⟨y, -, rfl⟩ := List.mem_map.1 hu
  rfl

/-- a file in memory, behind a MemFiler -/
structure MemIs (Pr : Nat → Prop) (w : World) (gm gz : Nat) (v : Value) (bs : List UInt8) : Prop where
  fm : ∃ nest : Int, -9223372036854775808 ≤ nest ∧ nest ≤ 9223372036854775807 ∧ w.heap[gm]? = some (.cells #[.pointer (some ⟨gz, 0, none⟩), .int .i64 nest] 87 (0, 0))
  fz : w.heap[gz]? = some (.cells #[v, .int .i64 0, .pointer none, .bool false] 55 (0, 0))
  nm : ¬ Pr gm
  nz : ¬ Pr gz
  row : Row Pr w 5 1 v bs.length (u8s bs)

/-- the file alone -/
structure ZIs (Pr : Nat → Prop) (w : World) (gz : Nat) (v : Value) (bs : List UInt8) : Prop where
  fz : w.heap[gz]? = some (.cells #[v, .int .i64 0, .pointer none, .bool false] 55 (0, 0))
  nz : ¬ Pr gz
  row : Row Pr w 5 1 v bs.length (u8s bs)

theorem ZIs.cells {Pr : Nat → Prop} {w : World} {gz : Nat} {v : Value} {bs : List UInt8} (h : ZIs Pr w gz v bs) :
    w.cell? ⟨gz, 0, none⟩ = some v ∧ w.cell? ⟨gz, 2, none⟩ = some (.pointer none) ∧ w.frozen? ⟨gz, 0, none⟩ = false := by
  obtain ⟨h1, h2⟩ := cells_at h.fz
  exact ⟨h1 0, h1 2, h2 0⟩

theorem ZIs.widen {Pr Pr' : Nat → Prop} {w : World} {gz : Nat} {v : Value} {bs : List UInt8} (h : ZIs Pr w gz v bs) (hp : ∀ k, k < w.heap.size → ¬ Pr k → ¬ Pr' k) : ZIs Pr' w gz v bs :=
  ⟨h.fz, hp _ (lt_of_heap h.fz) h.nz, h.row.widen fun k hk => hp k (h.row.own hk).1 (h.row.own hk).2.1⟩
theorem ZIs.kept {Pr Pr2 : Nat → Prop} {w w' : World} {gz : Nat} {v : Value} {bs : List UInt8} (h : ZIs Pr w gz v bs) (hk : Keeps Pr2 w w') (hp : ∀ k, k < w.heap.size → ¬ Pr k → Pr2 k) : ZIs Pr w' gz v bs :=
  ⟨(hk.block _ (hp _ (lt_of_heap h.fz) h.nz)).trans h.fz, h.nz, h.row.kept fun k hk' => hk.block k (hp k (h.row.own hk').1 (h.row.own hk').2.1)⟩

theorem lets_any (w : World) (gz : Nat) (n : Int) (c2 : w.cell? ⟨gz, 2, none⟩ = some (.pointer none)) :
    Calls Tryz.prog 37 #[.pointer (some ⟨gz, 0, none⟩), .int .i64 n] w fun e w' => e = .returned (.tuple #[.int .i64 n, .nilIface]) ∧ w' = w := by
  go_enter Tryz.func37, Tryz.ntmps37
  (repeat (first | go_values | go_skip | go_guarded | go_step | go_upon))
  go_ret2
  exact ⟨rfl, rfl⟩

/-- a clone of bytes: nil, or a slice in a block of its own -/
theorem clone_any (Pr : Nat → Prop) (w : World) (a : Option Addr) (n c : Nat) (bs : List UInt8) (hin : Inw Pr w) (hr : Rd Pr w a n bs) (hn : n ≤ 100000000) :
    Calls Tryz.prog 16 #[.slice a n c] w fun e w' => ∃ v, e = .returned v ∧ Row Pr w' 5 1 v n (u8s bs) ∧ Keeps Pr w w' ∧ (∀ k, v.ownBlock = some k → w.heap.size ≤ k) ∧ Keeps (Old w) w w' := by
  have qT : ∀ (w : World) (a : Option Addr) (n c n' c' : Nat), (binOp .eql 22 (.slice a n c) (.slice none n' c')).run Tryz.prog w = .ok (.bool a.isNone) w := fun w a n c n' c' => Lib.run_eql_slice_nil w _ _ a n c n' c' Tryz.underlying22
  cases a with
  | none =>
    have h0 : bs = [] := by
      rcases hr.2 with h | ⟨b, o, h, -⟩
      · exact h
      · cases h
    have hn0 : n = 0 := by rw [← hr.1, h0]; rfl
    subst h0 hn0
    clear hr
    go_enter Tryz.func16, Tryz.ntmps16
    (repeat (first | go_values | go_skip | go_guarded | go_step | go_upon))
    go_ret
    exact ⟨_, rfl, Row.nil _ _ _ _, Keeps.refl _ _, fun k h => (by cases h), Keeps.refl _ _⟩
  | some ad =>
    obtain ⟨i0, hi, hz0, hz1, hz2⟩ := info_parts infoU8
    have HR := Lib.hid hr
    have HI := Lib.hid hin
    clear hr hin
    go_enter Tryz.func16, Tryz.ntmps16
    (repeat (first | (at_builtin; refine wpList_append_rv rfl (.tmp 5) (.tmp 6) 22 rfl (Pr := Pr) (Pq := Pr) (e := 5) (v := .slice (some ⟨w.heap.size, 0, none⟩) 0 0) (n := 0) (xs := []) ?cn i0 _ 1 Tryz.underlying22 hi hz0 hz1 hz2 rfl ?cr rfl _ n c rfl (u8s bs) ?cs (one_u8s bs) ?c3 ?c4 ?_) | go_values | go_skip | go_guarded | go_step | go_upon))
    case cn => exact (HI.out.mono (by simp)).new
    case cr => exact Row.new Pr w HI.out.new #[] 0 0 (Nat.le_refl _) (by decide) (by simp) rfl
    case cs => exact (HR.out.keeps (Keeps.alloc HI.out _)).rv
    case c3 => unfold maxLen; omega
    case c4 => omega
    intro v' w1 hrow hgrow hown
    rw [Nat.zero_add, List.nil_append] at hrow
    have hown2 : ∀ k, v'.ownBlock = some k → w.heap.size ≤ k := fun k hk => by
      rcases hown with h | h
      · rw [h] at hk; simp [Value.ownBlock] at hk; omega
      · rw [h] at hk; simp at hk; omega
    have hk : Keeps (Old w) w w1 := ⟨hgrow.os, hgrow.tape, hgrow.output, Nat.le_trans (by simp) hgrow.size, fun k hk => (hgrow.block k (by simp; have : k < w.heap.size := hk; omega) (fun e => by simp [Value.ownBlock] at e; have : k < w.heap.size := hk; omega)).trans (heap_alloc_lt _ _ hk)⟩
    have HROW := Lib.hid hrow
    have HK := Lib.hid hk
    have HO := Lib.hid hown2
    obtain ⟨va, vc, rfl, -⟩ := hrow.slice
    clear hrow hgrow hown hown2 hk
    (repeat (first | go_values | go_skip | go_guarded | go_step | go_upon))
    go_ret
    exact ⟨_, rfl, HROW.out, HK.out.mono HI.out, HO.out, HK.out⟩

end Go.Proofs.YtkkliejgmgmebaaGreatDoor

namespace Go.Proofs.YtkkliejgmgmebaaGreatDoor
open Go.RowKit

/-- bytes, written from off on: zeros fill what is missing -/
def wrB (bs : List UInt8) (off : Nat) (xs : List UInt8) : List UInt8 := if xs = [] then bs else splice (bs ++ List.replicate (off + xs.length - bs.length) 0) off xs

theorem wrB_length (bs : List UInt8) (off : Nat) (xs : List UInt8) (h : xs ≠ []) : (wrB bs off xs).length = max bs.length (off + xs.length) := by
  unfold wrB
  rw [if_neg h, splice_length _ _ _ (by simp; omega)]
  simp; omega

/-- behind a store into the variable's slice -/
theorem ZIs.set {Pr : Nat → Prop} {w : World} {gz : Nat} {v v' : Value} {bs' : List UInt8} (h : w.heap[gz]? = some (.cells #[v, .int .i64 0, .pointer none, .bool false] 55 (0, 0))) (nz : ¬ Pr gz) (hr : Row Pr w 5 1 v' bs'.length (u8s bs')) :
    ZIs Pr (w.setCell ⟨gz, 0, none⟩ v') gz v' bs' :=
  ⟨heap_set_same h 0 v', nz, hr.setOther h (by decide) 0 v'⟩

theorem ZIs.grown {Pr : Nat → Prop} {w w' : World} {gz : Nat} {v : Value} {bs : List UInt8} (h : ZIs Pr w gz v bs) (hg : w.drew.grownBy w' v.ownBlock) : w'.heap[gz]? = some (.cells #[v, .int .i64 0, .pointer none, .bool false] 55 (0, 0)) :=
  (hg.block gz (lt_of_heap h.fz) (fun e => h.row.neElem h.fz (by decide) e.symm)).trans h.fz
theorem ZIs.grown1 {Pr : Nat → Prop} {w w' : World} {gz : Nat} {v : Value} {bs : List UInt8} (h : ZIs Pr w gz v bs) (hg : w.drew.grownBy w' v.ownBlock) : w'.cell? ⟨gz, 0, none⟩ = some v ∧ w'.frozen? ⟨gz, 0, none⟩ = false := by
  obtain ⟨h1, h2⟩ := cells_at (h.grown hg)
  exact ⟨h1 0, h2 0⟩

theorem u8s_zeros (m : Nat) : List.replicate m (Value.int .u8 0) = u8s (List.replicate m 0) := by simp [u8s]
theorem u8s_app (xs ys : List UInt8) : u8s xs ++ u8s ys = u8s (xs ++ ys) := by unfold u8s; rw [List.map_append]

theorem splice_map {α β : Type} (f : α → β) (l : List α) (off : Nat) (xs : List α) : (splice l off xs).map f = splice (l.map f) off (xs.map f) := by
  simp only [splice, List.map_append, List.map_take, List.map_drop, List.length_map]

/-- the copy into the file's bytes -/
theorem ZIs.copied {Pr : Nat → Prop} {w : World} {gz gd L vc off n c dcap : Nat} {bs xs : List UInt8} {a : Option Addr} (hin : Inw Pr w) (h : ZIs Pr w gz (.slice (some ⟨gd, 0, none⟩) L vc) bs) (hL : bs.length = L) (hr : Rd Pr w a n xs) (hfit : off + n ≤ L) (hn : 0 < n) :
    ∃ w', (Builtin.copy_ #[22, 22] 3 #[.slice (some ⟨gd, off, none⟩) (L - off) dcap, .slice a n c]).run Tryz.prog w = .ok (goInt (n : Int)) w' ∧ ZIs Pr w' gz (.slice (some ⟨gd, 0, none⟩) L vc) (splice bs off xs) ∧ Keeps Pr w w' := by
  subst hL
  have hmin : min n (bs.length - off) = n := by omega
  obtain ⟨w', hrun, hrow, hg⟩ := run_copy_rv (P := Tryz.prog) h.row 22 22 3 Tryz.underlying22 (by kernel_rfl) (off := off) (dl := bs.length - off) (dcap := dcap) (by omega) a n c (u8s xs) hr.rv (one_u8s xs) (by omega)
  rw [hmin] at hrun hrow
  have hxl : xs.length = n := hr.1
  have e : splice (u8s bs) off ((u8s xs).take n) = u8s (splice bs off xs) := by
    rw [List.take_of_length_le (by rw [List.length_map, hxl]; exact Nat.le_refl _), ← splice_map]
  rw [e] at hrow
  refine ⟨w', hrun, ⟨?_, h.nz, ?_⟩, Keeps.grown hin hg fun k e => ?_⟩
  · exact (hg.block gz (lt_of_heap h.fz) (fun e => h.row.neElem h.fz (by decide) e.symm)).trans h.fz
  · rw [splice_length _ _ _ (by omega)]; exact hrow
  · cases e
    exact (h.row.own (k := gd) rfl).2.1

theorem ZIs.keepsGrown {Pr : Nat → Prop} {w w' : World} {gz : Nat} {v : Value} {bs : List UInt8} (hin : Inw Pr w) (h : ZIs Pr w gz v bs) (hg : w.drew.grownBy w' v.ownBlock) (u : Value) : Keeps Pr w (w'.setCell ⟨gz, 0, none⟩ u) :=
  ((Keeps.drew Pr w).trans (Keeps.grown (w := w.drew) hin hg fun _ hk => (h.row.own hk).2.1)).trans (Keeps.setCell (a := ⟨gz, 0, none⟩) h.nz u)

set_option maxRecDepth 100000 in
set_option maxHeartbeats 4000000 in
/-- the file is made longer by zeros: put's region, Truncate's last one -/
theorem put_grow (Pr : Nat → Prop) (w : World) (gz : Nat) (v : Value) (bs xs : List UInt8) (a : Option Addr) (n c off : Nat) (hin : Inw Pr w) (h : ZIs Pr w gz v bs) (hr : Rd Pr w a n xs) (hn : 0 < n) (hl : bs.length ≤ 10000000) (ho : off ≤ 1000000) (hn2 : n ≤ 1000000) (hgr : bs.length < off + n) :
    Calls Tryz.prog 57 #[.pointer (some ⟨gz, 0, none⟩), .slice a n c, .int .i64 (off : Int)] w fun e w' => e = .returned (.tuple #[]) ∧ ∃ v', ZIs Pr w' gz v' (wrB bs off xs) ∧ Keeps Pr w w' := by
  obtain ⟨i0, hi, hz0, hz1, hz2⟩ := info_parts infoU8
  obtain ⟨m, hm⟩ : ∃ m, off + n = bs.length + m := ⟨off + n - bs.length, by omega⟩
  obtain ⟨c0, c2, f0⟩ := h.cells
  obtain ⟨va, vc, rfl, hvc, -⟩ := h.row.slice
  have e1 : (off : Int) + n - bs.length = m := by omega
  have H := Lib.hid h
  have HR := Lib.hid hr
  have HI := Lib.hid hin
  have HM := Lib.hid hm
  have E1 := Lib.hid e1
  clear h hr hin hm e1
  go_enter Tryz.func57, Tryz.ntmps57
  (repeat (first | go_values | go_skip | go_guarded | go_step | go_upon))
  refine wp_blind ?_
  have e1 := E1.out
  have wm : IntKind.i64.wrap (m : Int) = m := by rw [IntKind.wrap_i64]; omega
  go_region_law (refine step_append_zeros rfl (.tmp 25) (.tmp 32) 22 2 rfl (Pr := Pr) HI.out.new .i64 i0 (.int .u8 0) Tryz.underlying22 Tryz.underlying2 hi hz0 hz1 hz2 rfl rfl H.out.row.drew m rfl rfl (by omega) (fun v' w' hrow hgrow => ?_); obtain ⟨c1, g1⟩ := H.out.grown1 hgrow; obtain ⟨gd, vc', rfl, hvc', -⟩ := hrow.opened (show 0 < bs.length + m by omega); have hne : ¬ vc' = off := (by omega); have HG := Lib.hid hgrow; have HW := Lib.hid hrow; clear hgrow hrow)
  all_goals simp only [onlyNormal]
  all_goals skip
  all_goals (repeat (first | go_values | go_skip | go_guarded | go_step | go_upon))
  all_goals
    have hW := H.out.keepsGrown HI.out HG.out (.slice (some ⟨gd, 0, none⟩) (bs.length + m) vc')
    have hlen : (bs ++ List.replicate m 0).length = bs.length + m := by simp
    have hrw : Row Pr w' 5 1 (.slice (some ⟨gd, 0, none⟩) (bs.length + m) vc') (bs ++ List.replicate m 0).length (u8s (bs ++ List.replicate m 0)) := by
      rw [hlen, ← u8s_app, ← u8s_zeros]; exact HW.out
    have hz := ZIs.set (H.out.grown HG.out) H.out.nz hrw
    obtain ⟨w2, hrun, hz2, hk2⟩ := ZIs.copied (off := off) (n := n) (c := c) (dcap := vc' - off) (a := a) (xs := xs) (HI.out.mono hW.size) hz hlen (HR.out.keeps hW) (by omega) hn
    rw [hrun]
    have HZ := Lib.hid hz2
    have HK := Lib.hid (hW.trans hk2)
    clear hrun hz hz2 hk2 hW hrw
    (repeat (first | go_values | go_skip | go_guarded | go_step | go_upon))
    have e : wrB bs off xs = splice (bs ++ List.replicate m 0) off xs := by
      have := HR.out.1
      have := HM.out
      unfold wrB
      rw [if_neg (by intro h0; subst h0; simp at *; omega), show off + xs.length - bs.length = m by omega]
    rw [← e] at HZ
    exact bodyPost_end (results_none rfl _ _ _) rfl ⟨rfl, _, HZ.out, HK.out⟩

set_option maxRecDepth 100000 in
set_option maxHeartbeats 4000000 in
theorem put_fit (Pr : Nat → Prop) (w : World) (gz : Nat) (v : Value) (bs xs : List UInt8) (a : Option Addr) (n c off : Nat) (hin : Inw Pr w) (h : ZIs Pr w gz v bs) (hr : Rd Pr w a n xs) (hn : 0 < n) (hl : bs.length ≤ 10000000) (hfit : off + n ≤ bs.length) :
    Calls Tryz.prog 57 #[.pointer (some ⟨gz, 0, none⟩), .slice a n c, .int .i64 (off : Int)] w fun e w' => e = .returned (.tuple #[]) ∧ ∃ v', ZIs Pr w' gz v' (wrB bs off xs) ∧ Keeps Pr w w' := by
  obtain ⟨c0, c2, f0⟩ := h.cells
  obtain ⟨gd, vc, rfl, hvc, -⟩ := h.row.opened (by omega)
  have hne : ¬ vc = off := by omega
  have H := Lib.hid h
  have HR := Lib.hid hr
  have HI := Lib.hid hin
  clear h hr hin
  go_enter Tryz.func57, Tryz.ntmps57
  (repeat (first | go_values | go_skip | go_guarded | go_step | go_upon))
  obtain ⟨w2, hrun, hz2, hk2⟩ := ZIs.copied (off := off) (n := n) (c := c) (dcap := vc - off) (a := a) (xs := xs) HI.out H.out rfl HR.out (by omega) hn
  rw [hrun]
  have HZ := Lib.hid hz2
  have HK := Lib.hid hk2
  clear hrun hz2 hk2
  (repeat (first | go_values | go_skip | go_guarded | go_step | go_upon))
  have e : wrB bs off xs = splice bs off xs := by
    have := HR.out.1
    unfold wrB
    rw [if_neg (by intro h0; subst h0; simp at *; omega), show off + xs.length - bs.length = 0 by omega, List.replicate_zero, List.append_nil]
  rw [← e] at HZ
  exact bodyPost_end (results_none rfl _ _ _) rfl ⟨rfl, _, HZ.out, HK.out⟩

end Go.Proofs.YtkkliejgmgmebaaGreatDoor

namespace Go.Proofs.YtkkliejgmgmebaaGreatDoor
open Go.RowKit

/-- the two variables -/
structure Vars (Pr : Nat → Prop) (w : World) (a b : Addr) : Prop where
  p0 : Pr 0
  p1 : Pr 1
  e0 : w.cell? ⟨0, 0, none⟩ = some (.iface 115 (.pointer (some a)))
  e1 : w.cell? ⟨1, 0, none⟩ = some (.iface 115 (.pointer (some b)))

theorem Vars.keeps {Pr : Nat → Prop} {w w' : World} {a b : Addr} (h : Vars Pr w a b) (hk : Keeps Pr w w') : Vars Pr w' a b :=
  ⟨h.p0, h.p1, (hk.cell (a := ⟨0, 0, none⟩) h.p0).trans h.e0, (hk.cell (a := ⟨1, 0, none⟩) h.p1).trans h.e1⟩
theorem Vars.mono {Pr Pr' : Nat → Prop} {w : World} {a b : Addr} (h : Vars Pr w a b) (hp : ∀ k, Pr k → Pr' k) : Vars Pr' w a b := ⟨hp _ h.p0, hp _ h.p1, h.e0, h.e1⟩

theorem eql_same (w : World) (a : Addr) : (binOp .eql 71 (.iface 115 (.pointer (some a))) (.iface 115 (.pointer (some a)))).run Tryz.prog w = .ok (.bool true) w := by
  have h1 : (Tryz.prog.info? 115).map (·.comparable) = some true := by kernel_rfl
  have h2 : (Tryz.prog.info? 177).map (·.size) = some 1 := by kernel_rfl
  obtain ⟨i, hi, hi2⟩ := Option.map_eq_some_iff.1 h1
  obtain ⟨j, hj, -⟩ := Option.map_eq_some_iff.1 h2
  exact run_eql_iface_ptr_same w a Tryz.underlying71 Tryz.underlying115 hi hi2 hj
theorem eql_perm (w : World) (p a : Addr) : (binOp .eql 71 (.iface 109 (.pointer (some p))) (.iface 115 (.pointer (some a)))).run Tryz.prog w = .ok (.bool false) w := by kernel_rfl
theorem eql_nilr (w : World) (t : TypeId) (v : Value) : (binOp .eql 71 (.iface t v) .nilIface).run Tryz.prog w = .ok (.bool false) w := by kernel_rfl

theorem kind_nil (w : World) : Calls Tryz.prog 34 #[.nilIface] w fun e w' => e = .returned (.int .i64 0) ∧ w' = w := by
  go_enter Tryz.func34, Tryz.ntmps34
  (repeat (first | go_values | go_skip | go_guarded | go_step | go_upon))
  go_ret
  exact ⟨rfl, rfl⟩

theorem kind_eof (Pr : Nat → Prop) (w : World) (a b : Addr) (h : Vars Pr w a b) : Calls Tryz.prog 34 #[.iface 115 (.pointer (some a))] w fun e w' => e = .returned (.int .i64 1) ∧ w' = w := by
  have e0 := h.e0
  have q := eql_same
  clear h
  go_enter Tryz.func34, Tryz.ntmps34
  (repeat (first | go_values | go_skip | go_guarded | go_step | go_upon))
  go_ret
  exact ⟨rfl, rfl⟩

theorem ta_perm (w : World) (v : Value) : (Instr.typeAssert (.iface 109 v) 71 109 true).run Tryz.prog w = .ok (.tuple #[v, .bool true]) w := by
  unfold Instr.typeAssert; simp [run_underlying Tryz.underlying109]

set_option maxRecDepth 100000 in
theorem kind_perm (Pr : Nat → Prop) (w : World) (a b p : Addr) (h : Vars Pr w a b) : Calls Tryz.prog 34 #[.iface 109 (.pointer (some p))] w fun e w' => (∃ q : Int, e = .returned (.int .i64 q)) ∧ w' = w := by
  have e0 := h.e0
  have e1 := h.e1
  have q := eql_perm
  have zr : Calls Tryz.prog 36 #[.iface 109 (.pointer (some p))] w fun e w' => e = .returned (.bool false) ∧ w' = w := by
    clear h
    go_enter Tryz.func36, Tryz.ntmps36
    (repeat (first | go_values | go_skip | go_guarded | go_step | go_upon))
    go_ret
    exact ⟨rfl, rfl⟩
  have ZR := Lib.hid zr
  have ta := ta_perm
  clear h zr
  go_enter Tryz.func34, Tryz.ntmps34
  (repeat (first | go_values | go_skip | go_guarded | go_step | go_upon))
  refine ZR.out.mono ?_
  rintro e w' ⟨rfl, rfl⟩
  dsimp only
  (repeat (first | go_values | go_skip | go_guarded | go_step | go_upon))
  go_ret
  exact ⟨⟨_, rfl⟩, rfl⟩

theorem put_any (Pr : Nat → Prop) (w : World) (gz : Nat) (v : Value) (bs xs : List UInt8) (a : Option Addr) (n c off : Nat) (hin : Inw Pr w) (h : ZIs Pr w gz v bs) (hr : Rd Pr w a n xs) (hn : 0 < n) (hl : bs.length ≤ 10000000) (ho : off ≤ 1000000) (hn2 : n ≤ 1000000) :
    Calls Tryz.prog 57 #[.pointer (some ⟨gz, 0, none⟩), .slice a n c, .int .i64 (off : Int)] w fun e w' => e = .returned (.tuple #[]) ∧ ∃ v', ZIs Pr w' gz v' (wrB bs off xs) ∧ Keeps Pr w w' := by
  by_cases hlt : bs.length < off + n
  · exact put_grow Pr w gz v bs xs a n c off hin h hr hn hl ho hn2 hlt
  · exact put_fit Pr w gz v bs xs a n c off hin h hr hn hl (by omega)

set_option maxRecDepth 100000 in
set_option maxHeartbeats 1000000 in
theorem zwrite_any (Pr : Nat → Prop) (w : World) (gz : Nat) (v : Value) (bs xs : List UInt8) (a : Option Addr) (n c off : Nat) (hin : Inw Pr w) (h : ZIs Pr w gz v bs) (hr : Rd Pr w a n xs) (hnc : n ≤ c) (hn : 0 < n) (hl : bs.length ≤ 10000000) (ho : off ≤ 1000000) (hn2 : n ≤ 1000000) :
    Calls Tryz.prog 56 #[.pointer (some ⟨gz, 0, none⟩), .slice a n c, .int .i64 (off : Int)] w fun e w' => e = .returned (.tuple #[.int .i64 (n : Int), .nilIface]) ∧ ∃ v', ZIs Pr w' gz v' (wrB bs off xs) ∧ Keeps Pr w w' := by
  obtain ⟨c0, c2, f0⟩ := h.cells
  have H := Lib.hid h
  have HR := Lib.hid hr
  have HI := Lib.hid hin
  have L := Lib.hid (lets_any w gz n c2)
  clear h hr hin c0 f0
  go_enter Tryz.func56, Tryz.ntmps56
  (repeat (first | go_values | go_skip | go_guarded | go_step | go_upon))
  refine L.out.mono ?_
  rintro e w' ⟨rfl, rfl⟩
  dsimp only
  (repeat (first | go_values | go_skip | go_guarded | go_step | go_upon))
  refine (put_any Pr w' gz v bs xs a n c off HI.out H.out HR.out hn hl ho hn2).mono ?_
  rintro e w2 ⟨rfl, v', hz, hk⟩
  have HZ := Lib.hid hz
  have HK := Lib.hid hk
  clear hz hk
  dsimp only
  (repeat (first | go_values | go_skip | go_guarded | go_step | go_upon))
  go_ret2
  exact ⟨rfl, v', HZ.out, HK.out⟩

/-- bytes, made as long as it is told -/
def resB (bs : List UInt8) (n : Nat) : List UInt8 := bs.take n ++ List.replicate (n - bs.length) 0

set_option maxRecDepth 100000 in
set_option maxHeartbeats 1000000 in
theorem ztrunc_cut (Pr : Nat → Prop) (w : World) (gz : Nat) (v : Value) (bs : List UInt8) (n : Nat) (h : ZIs Pr w gz v bs) (hn : n ≤ bs.length) :
    Calls Tryz.prog 35 #[.pointer (some ⟨gz, 0, none⟩), .int .i64 (n : Int)] w fun e w' => e = .returned .nilIface ∧ ∃ v', ZIs Pr w' gz v' (resB bs n) ∧ Keeps Pr w w' := by
  obtain ⟨c0, c2, f0⟩ := h.cells
  obtain ⟨va, vc, rfl, hvc, -⟩ := h.row.slice
  have x1 : (n : Int) ≤ vc := by omega
  have x0 : (0 : Int) ≤ n := by omega
  have H := Lib.hid h
  have L := Lib.hid (lets_any w gz 0 c2)
  clear h
  go_enter Tryz.func35, Tryz.ntmps35
  (repeat (first | go_values | go_skip | go_guarded | go_step | go_upon))
  refine L.out.mono ?_
  rintro e w' ⟨rfl, rfl⟩
  dsimp only
  (repeat (first | go_values | go_skip | go_guarded | go_step | go_upon))
  go_ret
  have hr := H.out.row.cut n n hn (Nat.le_refl _) (by omega)
  rw [Nat.mul_one, ← List.map_take] at hr
  have e : resB bs n = bs.take n := by unfold resB; rw [show n - bs.length = 0 by omega, List.replicate_zero, List.append_nil]
  have el : (resB bs n).length = n := by rw [e, List.length_take]; omega
  refine ⟨rfl, _, ZIs.set H.out.fz H.out.nz ?_, Keeps.setCell (a := ⟨gz, 0, none⟩) H.out.nz _⟩
  rw [el, e]
  exact hr

set_option maxRecDepth 100000 in
set_option maxHeartbeats 1000000 in
theorem ztrunc_grow (Pr : Nat → Prop) (w : World) (gz : Nat) (v : Value) (bs : List UInt8) (n : Nat) (hin : Inw Pr w) (h : ZIs Pr w gz v bs) (hgr : bs.length < n) (hl : n ≤ 10000000) :
    Calls Tryz.prog 35 #[.pointer (some ⟨gz, 0, none⟩), .int .i64 (n : Int)] w fun e w' => e = .returned .nilIface ∧ ∃ v', ZIs Pr w' gz v' (resB bs n) ∧ Keeps Pr w w' := by
  obtain ⟨i0, hi, hz0, hz1, hz2⟩ := info_parts infoU8
  obtain ⟨c0, c2, f0⟩ := h.cells
  obtain ⟨va, vc, rfl, hvc, -⟩ := h.row.slice
  obtain ⟨m, hm⟩ : ∃ m, n = bs.length + m := ⟨n - bs.length, by omega⟩
  subst hm
  have H := Lib.hid h
  have HI := Lib.hid hin
  have L := Lib.hid (lets_any w gz 0 c2)
  clear h hin
  go_enter Tryz.func35, Tryz.ntmps35
  (repeat (first | go_values | go_skip | go_guarded | go_step | go_upon))
  refine L.out.mono ?_
  rintro e w' ⟨rfl, rfl⟩
  dsimp only
  (repeat (first | go_values | go_skip | go_guarded | go_step | go_upon))
  refine wp_blind ?_
  have e1 : (bs.length : Int) + m - bs.length = m := by omega
  have wm : IntKind.i64.wrap (m : Int) = m := by rw [IntKind.wrap_i64]; omega
  go_region_law (refine step_append_zeros rfl (.tmp 36) (.tmp 43) 22 2 rfl (Pr := Pr) HI.out.new .i64 i0 (.int .u8 0) Tryz.underlying22 Tryz.underlying2 hi hz0 hz1 hz2 rfl rfl H.out.row.drew m rfl rfl (by omega) (fun v' w2 hrow hgrow => ?_); obtain ⟨c1, g1⟩ := H.out.grown1 hgrow; obtain ⟨gd, vc', rfl, hvc', -⟩ := hrow.opened (show 0 < bs.length + m by omega); have HG := Lib.hid hgrow; have HW := Lib.hid hrow; clear hgrow hrow)
  all_goals simp only [onlyNormal]
  all_goals (repeat (first | go_values | go_skip | go_guarded | go_step | go_upon))
  all_goals
    go_ret
    have e : resB bs (bs.length + m) = bs ++ List.replicate m 0 := by unfold resB; rw [List.take_of_length_le (by omega), Nat.add_sub_cancel_left]
    have hrw : Row Pr w2 5 1 (.slice (some ⟨gd, 0, none⟩) (bs.length + m) vc') (resB bs (bs.length + m)).length (u8s (resB bs (bs.length + m))) := by
      rw [e, ← u8s_app, ← u8s_zeros, show (bs ++ List.replicate m (0 : UInt8)).length = bs.length + m by simp]; exact HW.out
    exact ⟨rfl, _, ZIs.set (H.out.grown HG.out) H.out.nz hrw, H.out.keepsGrown HI.out HG.out _⟩

theorem ztrunc_any (Pr : Nat → Prop) (w : World) (gz : Nat) (v : Value) (bs : List UInt8) (n : Nat) (hin : Inw Pr w) (h : ZIs Pr w gz v bs) (hn : n ≤ 10000000) :
    Calls Tryz.prog 35 #[.pointer (some ⟨gz, 0, none⟩), .int .i64 (n : Int)] w fun e w' => e = .returned .nilIface ∧ ∃ v', ZIs Pr w' gz v' (resB bs n) ∧ Keeps Pr w w' := by
  by_cases hlt : bs.length < n
  · exact ztrunc_grow Pr w gz v bs n hin h hlt hn
  · exact ztrunc_cut Pr w gz v bs n h (by omega)

theorem zstat_any (Pr : Nat → Prop) (w : World) (gz : Nat) (v : Value) (bs : List UInt8) (h : ZIs Pr w gz v bs) :
    Calls Tryz.prog 125 #[.pointer (some ⟨gz, 0, none⟩)] w fun e w' => e = .returned (.tuple #[.int .i64 (bs.length : Int), .nilIface]) ∧ w' = w := by
  obtain ⟨c0, c2, f0⟩ := h.cells
  obtain ⟨va, vc, rfl, hvc, -⟩ := h.row.slice
  clear h
  go_enter Tryz.func125, Tryz.ntmps125
  (repeat (first | go_values | go_skip | go_guarded | go_step | go_upon))
  go_ret2
  exact ⟨rfl, rfl⟩

theorem zzsize_any (w : World) (n : Int) : Calls Tryz.prog 126 #[.int .i64 n] w fun e w' => e = .returned (.int .i64 n) ∧ w' = w := by
  go_enter Tryz.func126, Tryz.ntmps126
  (repeat (first | go_values | go_skip | go_guarded | go_step | go_upon))
  go_ret
  exact ⟨rfl, rfl⟩

end Go.Proofs.YtkkliejgmgmebaaGreatDoor

namespace Go.Proofs.YtkkliejgmgmebaaGreatDoor
open Go.RowKit

/-- all that is there but one block -/
abbrev But (w : World) (g : Nat) : Nat → Prop := fun k => k < w.heap.size ∧ k ≠ g

set_option maxRecDepth 100000 in
set_option maxHeartbeats 1000000 in
theorem zread_out (Pr : Nat → Prop) (w : World) (gz gb : Nat) (v : Value) (bs : List UInt8) (a b : Addr) (bn bc off : Nat) (hv : Vars Pr w a b) (h : ZIs Pr w gz v bs) (hout : bs.length ≤ off) :
    Calls Tryz.prog 55 #[.pointer (some ⟨gz, 0, none⟩), .slice (some ⟨gb, 0, none⟩) bn bc, .int .i64 (off : Int)] w fun e w' => e = .returned (.tuple #[.int .i64 0, .iface 115 (.pointer (some a))]) ∧ ∃ q, w' = w.drewN q := by
  obtain ⟨c0, c2, f0⟩ := h.cells
  obtain ⟨va, vc, rfl, hvc, -⟩ := h.row.slice
  have e0 := hv.e0
  clear h hv
  go_enter Tryz.func55, Tryz.ntmps55
  (repeat (first | go_values | go_skip | go_guarded | go_step | go_upon))
  go_quiet (fail)
  (repeat (first | go_values | go_skip | go_guarded | go_step | go_upon))
  go_ret2
  exact ⟨rfl, _, rfl⟩

set_option maxRecDepth 100000 in
set_option maxHeartbeats 1000000 in
theorem zread_short (Pr Pq : Nat → Prop) (w : World) (gz gb : Nat) (v : Value) (bs : List UInt8) (xs : List Value) (a b : Addr) (bn bc off d : Nat) (hv : Vars Pr w a b) (h : ZIs Pr w gz v bs) (hb : Row Pq w 5 1 (.slice (some ⟨gb, 0, none⟩) bn bc) bn xs) (hgb : Pr gb → False) (hin : off < bs.length) (hn : 0 < bn) (hn2 : bn ≤ 1000000) (hd : min (bs.length - off) bn = d) (hs : d < bn) :
    Calls Tryz.prog 55 #[.pointer (some ⟨gz, 0, none⟩), .slice (some ⟨gb, 0, none⟩) bn bc, .int .i64 (off : Int)] w fun e w' =>
      e = .returned (.tuple #[.int .i64 (d : Int), .iface 115 (.pointer (some a))]) ∧ ∃ q w2, w' = World.drewN w2 q ∧ Row Pq w2 5 1 (.slice (some ⟨gb, 0, none⟩) bn bc) bn (splice xs 0 (u8s ((bs.drop off).take d))) ∧ Keeps (But w gb) w w2 := by
  obtain ⟨c0, c2, f0⟩ := h.cells
  obtain ⟨gd, vc, rfl, hvc, -⟩ := h.row.opened (by omega)
  have e0 := hv.e0
  have x1 : (off : Int) ≤ bs.length := by omega
  have x0 : (0 : Int) ≤ off := by omega
  have hne : ¬ vc = off := by omega
  have HV := Lib.hid hv
  have H := Lib.hid h
  have HB := Lib.hid hb
  have HD := Lib.hid hd
  clear h hv hb hd
  go_enter Tryz.func55, Tryz.ntmps55
  (repeat (first | go_values | go_skip | go_guarded | go_step | go_upon))
  have r := H.out.row.piece off (bs.length - off) (by omega)
  rw [if_neg hne, u8s_piece, List.take_of_length_le (by rw [List.length_drop]; exact Nat.le_refl _)] at r
  have ha : (⟨gd, 0, none⟩ : Addr).add off = ⟨gd, off, none⟩ := by unfold Addr.add; split <;> simp_all
  rw [Option.map_some, ha] at r
  obtain ⟨w2, hrun, hr2, hg2⟩ := run_copy_rv (P := Tryz.prog) HB.out 22 22 3 Tryz.underlying22 (by kernel_rfl) (off := 0) (dl := bn) (dcap := bc) (by omega) _ (bs.length - off) (vc - off) _ r (one_u8s _) (by omega)
  have hk2 : Keeps (But w gb) w w2 := Keeps.grown (fun k h => h.1) hg2 (fun k e h => by cases e; exact h.2 rfl)
  rw [← List.map_take, HD.out] at hr2
  rw [HD.out] at hrun
  have e0' : w2.cell? ⟨0, 0, none⟩ = some (.iface 115 (.pointer (some a))) := (hk2.cell (a := ⟨0, 0, none⟩) ⟨block_lt_of_cell e0, fun e => hgb (by rw [← e]; exact HV.out.p0)⟩).trans e0
  have hdl : d ≤ bn := by have := HD.out; omega
  rw [hrun]
  have HR := Lib.hid hr2
  have HK := Lib.hid hk2
  clear hrun hr2 hk2 r ha hg2 e0 c0 c2 f0 hin
  (repeat (first | go_values | go_skip | go_guarded | go_step | go_upon))
  go_quiet (fail)
  (repeat (first | go_values | go_skip | go_guarded | go_step | go_upon))
  go_ret2
  exact ⟨rfl, _, w2, rfl, HR.out, HK.out⟩

set_option maxRecDepth 100000 in
set_option maxHeartbeats 1000000 in
theorem zread_full (Pr Pq : Nat → Prop) (w : World) (gz gb : Nat) (v : Value) (bs : List UInt8) (xs : List Value) (a b : Addr) (bn bc off d : Nat) (hv : Vars Pr w a b) (h : ZIs Pr w gz v bs) (hb : Row Pq w 5 1 (.slice (some ⟨gb, 0, none⟩) bn bc) bn xs) (hgb : Pr gb → False) (hin : off < bs.length) (hn : 0 < bn) (hn2 : bn ≤ 1000000) (hd : min (bs.length - off) bn = d) (hs : d = bn) :
    Calls Tryz.prog 55 #[.pointer (some ⟨gz, 0, none⟩), .slice (some ⟨gb, 0, none⟩) bn bc, .int .i64 (off : Int)] w fun e w' =>
      e = .returned (.tuple #[.int .i64 (d : Int), .nilIface]) ∧ ∃ q w2, w' = World.drewN w2 q ∧ Row Pq w2 5 1 (.slice (some ⟨gb, 0, none⟩) bn bc) bn (splice xs 0 (u8s ((bs.drop off).take d))) ∧ Keeps (But w gb) w w2 := by
  obtain ⟨c0, c2, f0⟩ := h.cells
  obtain ⟨gd, vc, rfl, hvc, -⟩ := h.row.opened (by omega)
  have e0 := hv.e0
  have x1 : (off : Int) ≤ bs.length := by omega
  have x0 : (0 : Int) ≤ off := by omega
  have hne : ¬ vc = off := by omega
  have HV := Lib.hid hv
  have H := Lib.hid h
  have HB := Lib.hid hb
  have HD := Lib.hid hd
  clear h hv hb hd
  go_enter Tryz.func55, Tryz.ntmps55
  (repeat (first | go_values | go_skip | go_guarded | go_step | go_upon))
  have r := H.out.row.piece off (bs.length - off) (by omega)
  rw [if_neg hne, u8s_piece, List.take_of_length_le (by rw [List.length_drop]; exact Nat.le_refl _)] at r
  have ha : (⟨gd, 0, none⟩ : Addr).add off = ⟨gd, off, none⟩ := by unfold Addr.add; split <;> simp_all
  rw [Option.map_some, ha] at r
  obtain ⟨w2, hrun, hr2, hg2⟩ := run_copy_rv (P := Tryz.prog) HB.out 22 22 3 Tryz.underlying22 (by kernel_rfl) (off := 0) (dl := bn) (dcap := bc) (by omega) _ (bs.length - off) (vc - off) _ r (one_u8s _) (by omega)
  have hk2 : Keeps (But w gb) w w2 := Keeps.grown (fun k h => h.1) hg2 (fun k e h => by cases e; exact h.2 rfl)
  rw [← List.map_take, HD.out] at hr2
  rw [HD.out] at hrun
  have e0' : w2.cell? ⟨0, 0, none⟩ = some (.iface 115 (.pointer (some a))) := (hk2.cell (a := ⟨0, 0, none⟩) ⟨block_lt_of_cell e0, fun e => hgb (by rw [← e]; exact HV.out.p0)⟩).trans e0
  have hdl : d ≤ bn := by have := HD.out; omega
  rw [hrun]
  have HR := Lib.hid hr2
  have HK := Lib.hid hk2
  clear hrun hr2 hk2 r ha hg2 e0 c0 c2 f0 hin
  (repeat (first | go_values | go_skip | go_guarded | go_step | go_upon))
  go_ret2
  exact ⟨by rw [hs]; rfl, 0, w2, rfl, HR.out, HK.out⟩

end Go.Proofs.YtkkliejgmgmebaaGreatDoor

namespace Go.Proofs.YtkkliejgmgmebaaGreatDoor
open Go.RowKit

theorem mread_of (w : World) (gm gz : Nat) (s o : Value) (R : Value → Value → World → Prop) (c : w.cell? ⟨gm, 0, none⟩ = some (.pointer (some ⟨gz, 0, none⟩)))
    (h : Calls Tryz.prog 55 #[.pointer (some ⟨gz, 0, none⟩), s, o] w fun e w' => ∃ x y, e = .returned (.tuple #[x, y]) ∧ R x y w') :
    Calls Tryz.prog 120 #[.pointer (some ⟨gm, 0, none⟩), s, o] w fun e w' => ∃ x y, e = .returned (.tuple #[x, y]) ∧ R x y w' := by
  have H := Lib.hid h
  clear h
  go_enter Tryz.func120, Tryz.ntmps120
  (repeat (first | go_values | go_skip | go_guarded | go_step | go_upon))
  refine H.out.mono ?_
  rintro e w' ⟨x, y, rfl, hr⟩
  have HR := Lib.hid hr
  clear hr
  dsimp only
  (repeat (first | go_values | go_skip | go_guarded | go_step | go_upon))
  go_ret2
  exact ⟨_, _, rfl, HR.out⟩

theorem mwrite_of (w : World) (gm gz : Nat) (s o : Value) (R : Value → Value → World → Prop) (c : w.cell? ⟨gm, 0, none⟩ = some (.pointer (some ⟨gz, 0, none⟩)))
    (h : Calls Tryz.prog 56 #[.pointer (some ⟨gz, 0, none⟩), s, o] w fun e w' => ∃ x y, e = .returned (.tuple #[x, y]) ∧ R x y w') :
    Calls Tryz.prog 124 #[.pointer (some ⟨gm, 0, none⟩), s, o] w fun e w' => ∃ x y, e = .returned (.tuple #[x, y]) ∧ R x y w' := by
  have H := Lib.hid h
  clear h
  go_enter Tryz.func124, Tryz.ntmps124
  (repeat (first | go_values | go_skip | go_guarded | go_step | go_upon))
  refine H.out.mono ?_
  rintro e w' ⟨x, y, rfl, hr⟩
  have HR := Lib.hid hr
  clear hr
  dsimp only
  (repeat (first | go_values | go_skip | go_guarded | go_step | go_upon))
  go_ret2
  exact ⟨_, _, rfl, HR.out⟩

theorem mtrunc_of (w : World) (gm gz : Nat) (o : Value) (R : World → Prop) (c : w.cell? ⟨gm, 0, none⟩ = some (.pointer (some ⟨gz, 0, none⟩)))
    (h : Calls Tryz.prog 35 #[.pointer (some ⟨gz, 0, none⟩), o] w fun e w' => e = .returned .nilIface ∧ R w') :
    Calls Tryz.prog 30 #[.pointer (some ⟨gm, 0, none⟩), o] w fun e w' => e = .returned .nilIface ∧ R w' := by
  have H := Lib.hid h
  clear h
  go_enter Tryz.func30, Tryz.ntmps30
  (repeat (first | go_values | go_skip | go_guarded | go_step | go_upon))
  refine H.out.mono ?_
  rintro e w' ⟨rfl, hr⟩
  have HR := Lib.hid hr
  clear hr
  dsimp only
  (repeat (first | go_values | go_skip | go_guarded | go_step | go_upon))
  go_ret
  exact ⟨rfl, HR.out⟩

theorem mpunch_any (w : World) (p o s : Value) : Calls Tryz.prog 119 #[p, o, s] w fun e w' => e = .returned .nilIface ∧ w' = w := by
  go_enter Tryz.func119, Tryz.ntmps119
  (repeat (first | go_values | go_skip | go_guarded | go_step | go_upon))
  go_ret
  exact ⟨rfl, rfl⟩
theorem mrollback_any (w : World) (p : Value) : Calls Tryz.prog 121 #[p] w fun e w' => e = .returned .nilIface ∧ w' = w := by
  go_enter Tryz.func121, Tryz.ntmps121
  (repeat (first | go_values | go_skip | go_guarded | go_step | go_upon))
  go_ret
  exact ⟨rfl, rfl⟩

theorem msize_any (Pr : Nat → Prop) (w : World) (gm gz : Nat) (v : Value) (bs : List UInt8) (c : w.cell? ⟨gm, 0, none⟩ = some (.pointer (some ⟨gz, 0, none⟩))) (h : ZIs Pr w gz v bs) :
    Calls Tryz.prog 122 #[.pointer (some ⟨gm, 0, none⟩)] w fun e w' => e = .returned (.tuple #[.int .i64 (bs.length : Int), .nilIface]) ∧ w' = w := by
  have H := Lib.hid h
  clear h
  go_enter Tryz.func122, Tryz.ntmps122
  (repeat (first | go_values | go_skip | go_guarded | go_step | go_upon))
  refine (zstat_any Pr w gz v bs H.out).mono ?_
  rintro e w' ⟨rfl, rfl⟩
  dsimp only
  (repeat (first | go_values | go_skip | go_guarded | go_step | go_upon))
  refine (zzsize_any _ _).mono ?_
  rintro e w' ⟨rfl, rfl⟩
  dsimp only
  (repeat (first | go_values | go_skip | go_guarded | go_step | go_upon))
  go_ret2
  exact ⟨rfl, rfl⟩

theorem wrap64_range (x : Int) : -9223372036854775808 ≤ wrap64 x ∧ wrap64 x ≤ 9223372036854775807 := by unfold wrap64; omega
theorem wrapI64_range (x : Int) : -9223372036854775808 ≤ IntKind.i64.wrap x ∧ IntKind.i64.wrap x ≤ 9223372036854775807 := by rw [IntKind.wrap_i64]; omega

theorem mbegin_any (w : World) (gm : Nat) (n : Int) (p : Value) (h : w.heap[gm]? = some (.cells #[p, .int .i64 n] 87 (0, 0))) :
    Calls Tryz.prog 115 #[.pointer (some ⟨gm, 0, none⟩)] w fun e w' => e = .returned .nilIface ∧ ∃ n' : Int, (-9223372036854775808 ≤ n' ∧ n' ≤ 9223372036854775807) ∧ w' = w.setCell ⟨gm, 1, none⟩ (.int .i64 n') := by
  obtain ⟨b0, b1⟩ := cells_at h
  have c1 := b0 1
  have f1 := b1 1
  simp only [List.getElem?_toArray, List.getElem?_cons_succ, List.getElem?_cons_zero] at c1
  clear b0 b1 h
  go_enter Tryz.func115, Tryz.ntmps115
  (repeat (first | go_values | go_skip | go_guarded | go_step | go_upon))
  go_ret
  exact ⟨rfl, _, by first | exact wrap64_range _ | exact wrapI64_range _, rfl⟩

theorem mname_any (w : World) (p : Value) : Calls Tryz.prog 118 #[p] w fun e w' => (∃ s, e = .returned (.string s) ∧ s.size ≤ 100) ∧ w' = w := by
  go_enter Tryz.func118, Tryz.ntmps118
  (repeat (first | go_values | go_skip | go_guarded | go_step | go_upon))
  go_ret
  exact ⟨⟨_, rfl, by decide⟩, rfl⟩

theorem mend_some (w : World) (gm : Nat) (n : Int) (p : Value) (h : w.heap[gm]? = some (.cells #[p, .int .i64 n] 87 (0, 0))) (h0 : n ≠ 0) :
    Calls Tryz.prog 117 #[.pointer (some ⟨gm, 0, none⟩)] w fun e w' => e = .returned .nilIface ∧ ∃ n' : Int, (-9223372036854775808 ≤ n' ∧ n' ≤ 9223372036854775807) ∧ w' = w.setCell ⟨gm, 1, none⟩ (.int .i64 n') := by
  obtain ⟨b0, b1⟩ := cells_at h
  have c1 := b0 1
  have f1 := b1 1
  simp only [List.getElem?_toArray, List.getElem?_cons_succ, List.getElem?_cons_zero] at c1
  have hb : (n == 0) = false := by simpa using h0
  clear b0 b1 h h0
  go_enter Tryz.func117, Tryz.ntmps117
  (repeat (first | go_values | go_skip | go_guarded | go_step | go_upon))
  go_ret
  exact ⟨rfl, _, by first | exact wrap64_range _ | exact wrapI64_range _, rfl⟩

theorem mend_none (w : World) (gm : Nat) (p : Value) (h : w.heap[gm]? = some (.cells #[p, .int .i64 0] 87 (0, 0))) :
    Calls Tryz.prog 117 #[.pointer (some ⟨gm, 0, none⟩)] w fun e w' => ∃ o, e = .returned (.iface 109 (.pointer (some ⟨w.heap.size, 0, none⟩))) ∧ w' = w.alloc o := by
  obtain ⟨b0, b1⟩ := cells_at h
  have c1 := b0 1
  have f1 := b1 1
  simp only [List.getElem?_toArray, List.getElem?_cons_succ, List.getElem?_cons_zero] at c1
  clear b0 b1 h
  go_enter Tryz.func117, Tryz.ntmps117
  (repeat (first | go_values | go_skip | go_guarded | go_step | go_upon))
  refine (mname_any _ _).mono ?_
  rintro e w' ⟨⟨s, rfl, hs⟩, rfl⟩
  dsimp only
  (repeat (first | go_values | go_skip | go_guarded | go_step | go_upon))
  go_ret
  exact ⟨_, rfl, rfl⟩

end Go.Proofs.YtkkliejgmgmebaaGreatDoor
