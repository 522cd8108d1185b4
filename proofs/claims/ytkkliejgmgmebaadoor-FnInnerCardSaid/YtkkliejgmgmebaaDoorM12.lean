/-
  impl.MemFile.
-/
import Derived.Test.YtkkliejgmgmebaaDoorM11
namespace Go.Proofs.YtkkliejgmgmebaaDoor
open Go.RowKit

theorem icalls_mem (Pr : Nat → Prop) (w : World) (gm gz : Nat) (bs : List UInt8) (L : List Op) (a : Option Addr) (n c : Nat) (va vb : Addr) (v : Value)
    (hin : Inw Pr w) (hL : L.length = n) (hn : n ≤ 1000000) (hnc : n ≤ c) (hrd : rdO Pr w a L) (hV : Vars Pr w va vb) (hfit : fitsAll L) (hbs : bs.length ≤ 262144) (hm : MemIs Pr w gm gz v bs) :
    Calls Tryd.prog 20 #[.iface 57 (.pointer (some ⟨gm, 0, none⟩)), .slice a n c] w fun e w' => ∃ vout Y R vm, e = .returned vout ∧ Done Pr w w' gm gz bs L vout Y R vm := by
  have HL := Lib.hid (fun Q0 A hA hx => icalls_loop Q0 Pr w gm gz bs L a n c va vb v A hin hL hn hnc hrd hV hfit hbs hm hA hx)
  clear hin hL hrd hV hfit hbs hm
  go_enter Tryd.func20, Tryd.ntmps20
  (repeat (first | go_values | go_skip | go_guarded | go_step | go_upon))
  refine HL.out _ _ ⟨rfl, rfl, rfl, rfl, rfl, rfl, rfl⟩ ?_
  intro a' w' vout Y R vm ha hD
  obtain ⟨u, rfl⟩ := frm20 ha
  have HD := Lib.hid hD
  obtain ⟨av, cv, rfl, -⟩ := hD.row.slice
  clear hD ha
  simp only [Exit.inBlock, ↓reduceIte]
  (repeat (first | go_values | go_skip | go_guarded | go_step | go_upon))
  go_ret
  exact ⟨_, Y, R, vm, rfl, HD.out⟩

/-- one result in memory -/
structure ResAt (w : World) (b o i : Nat) (x : RS) : Prop where
  c0 : w.cell? ⟨b, o + i * 4, none⟩ = some (.int .i64 x.r.n)
  c1 : w.cell? ⟨b, o + i * 4 + 1, none⟩ = some (.slice x.a x.r.d.length x.c)
  c2 : w.cell? ⟨b, o + i * 4 + 2, none⟩ = some (.int .i64 x.r.sz)
  c3 : w.cell? ⟨b, o + i * 4 + 3, none⟩ = some (.int .i64 x.r.err)
  nc : x.r.d.length ≤ x.c
  rd : Rd (Old w) w x.a x.r.d.length x.r.d

/-- a list of results -/
def rdR (w : World) (a : Option Addr) (R : List RS) : Prop :=
  R = [] ∨ ∃ b o, a = some ⟨b, o, none⟩ ∧ b < w.heap.size ∧ ∀ (i : Nat) x, R[i]? = some x → ResAt w b o i x

theorem ResAt.keeps {w w' : World} {b o i : Nat} {x : RS} (h : ResAt w b o i x) (hb : b < w.heap.size) (hk : Keeps (Old w) w w') : ResAt w' b o i x :=
  ⟨(hk.cell (a := ⟨b, _, none⟩) hb).trans h.c0, (hk.cell (a := ⟨b, _, none⟩) hb).trans h.c1, (hk.cell (a := ⟨b, _, none⟩) hb).trans h.c2, (hk.cell (a := ⟨b, _, none⟩) hb).trans h.c3, h.nc, (h.rd.keeps hk).mono fun _ h => Nat.lt_of_lt_of_le h hk.size⟩
theorem rdR.keeps {w w' : World} {a : Option Addr} {R : List RS} (h : rdR w a R) (hk : Keeps (Old w) w w') : rdR w' a R := by
  rcases h with h0 | ⟨b, o, rfl, hb, hc⟩
  · exact .inl h0
  · exact .inr ⟨b, o, rfl, Nat.lt_of_lt_of_le hb hk.size, fun i x hx => (hc i x hx).keeps hb hk⟩

theorem flat_at : ∀ (R : List RS) (i : Nat) (x : RS) (j : Nat), j < 4 → R[i]? = some x → (R.flatMap RS.cells)[i * 4 + j]? = x.cells[j]?
  | y :: R, 0, x, j, hj, h => by
    simp only [List.getElem?_cons_zero, Option.some.injEq] at h
    subst h
    rw [List.flatMap_cons, Nat.zero_mul, Nat.zero_add, List.getElem?_append_left (by simpa using hj)]
  | y :: R, i + 1, x, j, hj, h => by
    have := flat_at R i x j hj (by simpa using h)
    rw [List.flatMap_cons, List.getElem?_append_right (by simp; omega), ← this]
    congr 1
    simp; omega

/-- the results read -/
theorem rdR_of {Pr : Nat → Prop} {w : World} {a : Option Addr} {n c : Nat} {R : List RS} (h : Row Pr w 40 4 (.slice a n c) n (R.flatMap RS.cells)) (hl : R.length = n) (hd : ∀ x ∈ R, Rd (Old w) w x.a x.r.d.length x.r.d ∧ x.r.d.length ≤ x.c) : rdR w a R := by
  rcases h.2 with ⟨h0, h1⟩ | ⟨g, cap, cur, hv, -, hg, -⟩
  · subst h1
    exact .inl (List.eq_nil_of_length_eq_zero hl)
  · simp only [Value.slice.injEq, true_and] at hv
    obtain ⟨rfl, rfl⟩ := hv
    refine .inr ⟨g, 0, rfl, lt_of_heap hg, fun i x hx => ?_⟩
    have hi : i < n := by have := (List.getElem?_eq_some_iff.1 hx).1; omega
    obtain ⟨d1, d2⟩ := hd x (List.mem_of_getElem? hx)
    refine ⟨?_, ?_, ?_, ?_, d2, d1⟩
    · rw [Nat.zero_add, h.cellAt _ (by omega)]; exact flat_at R i x 0 (by omega) hx
    · rw [Nat.zero_add, h.cellAt _ (by omega)]; exact flat_at R i x 1 (by omega) hx
    · rw [Nat.zero_add, h.cellAt _ (by omega)]; exact flat_at R i x 2 (by omega) hx
    · rw [Nat.zero_add, h.cellAt _ (by omega)]; exact flat_at R i x 3 (by omega) hx

theorem newZZ_any (w : World) (p : Option Addr) : Calls Tryd.prog 21 #[.pointer p] w fun e w' => e = .returned (.pointer (some ⟨w.heap.size, 0, none⟩)) ∧ w' = w.alloc (.cells #[.pointer p, .int .i64 0] 67) := by
  go_enter Tryd.func21, Tryd.ntmps21
  (repeat (first | go_values | go_skip | go_guarded | go_step | go_upon))
  go_ret
  exact ⟨rfl, rfl⟩

/-- what impl.MemFile leaves -/
def MfPost (w : World) (bs : List UInt8) (L : List Op) (e : Ending) (w' : World) : Prop :=
  ∃ a1 c1 a2 c2 R, e = .returned (.tuple #[.slice a1 L.length c1, .slice a2 (memB bs L).length c2]) ∧ rdR w' a1 R ∧ Results bs L R ∧ Rd (Old w') w' a2 (memB bs L).length (memB bs L) ∧ Below w.heap.size w w' ∧ L.length ≤ c1 ∧ (memB bs L).length ≤ c2

set_option maxRecDepth 100000 in
set_option maxHeartbeats 4000000 in
theorem memFile_any (w : World) (bs : List UInt8) (L : List Op) (sa : Option Addr) (sn sc : Nat) (a : Option Addr) (n c : Nat) (va vb : Addr)
    (hs : Rd (Old w) w sa sn bs) (hL : L.length = n) (hn : n ≤ 1000000) (hnc : n ≤ c) (hrd : rdO (Old w) w a L) (hV : Vars (Old w) w va vb) (hfit : fitsAll L) (hbs : bs.length ≤ 262144) :
    Calls Tryd.prog 10 #[.slice sa sn sc, .slice a n c] w (MfPost w bs L) := by
  have hsn := hs.1
  have CL := Lib.hid (clone_any (Old w) w sa sn sc bs (fun _ h => h) hs (by omega))
  have HRD := Lib.hid hrd
  have HV := Lib.hid hV
  have HF := Lib.hid hfit
  have HLN := Lib.hid hL
  have HSN := Lib.hid hsn
  clear hs hrd hV hfit hL hsn
  go_enter Tryd.func10, Tryd.ntmps10
  (repeat (first | go_values | go_skip | go_guarded | go_step | go_upon))
  refine CL.out.mono ?_
  rintro e w1 ⟨v, rfl, hrow, hk1, hown, -⟩
  obtain ⟨av, cv, rfl, -⟩ := hrow.slice
  have HROW := Lib.hid hrow
  have HK1 := Lib.hid hk1
  have HO := Lib.hid hown
  clear hrow hk1 hown CL
  dsimp only
  (repeat (first | go_values | go_skip | go_guarded | go_step | go_upon))
  refine (newZZ_any _ _).mono ?_
  rintro e w2 ⟨rfl, rfl⟩
  have hs1 := HK1.out.size
  have hm : MemIs (Old w) ((w1.alloc (.cells #[.slice av sn cv, .int .i64 0, .pointer none, .bool false] 55)).alloc (.cells #[.pointer (some ⟨w1.heap.size, 0, none⟩), .int .i64 0] 67)) (w1.heap.size + 1) w1.heap.size (.slice av sn cv) bs := by
    refine ⟨⟨0, by omega, by omega, heap_alloc2_new _ _ _⟩, heap_alloc2_old _ _ _, fun h => ?_, fun h => ?_, ?_⟩
    · have : w1.heap.size + 1 < w.heap.size := h; omega
    · have : w1.heap.size < w.heap.size := h; omega
    · rw [HSN.out]; exact (HROW.out.alloc _).alloc _
  have hk2 : Keeps (Old w) w ((w1.alloc (.cells #[.slice av sn cv, .int .i64 0, .pointer none, .bool false] 55)).alloc (.cells #[.pointer (some ⟨w1.heap.size, 0, none⟩), .int .i64 0] 67)) :=
    (HK1.out.trans (Keeps.alloc (fun k (h : k < w.heap.size) => by omega) _)).trans (Keeps.alloc (fun k (h : k < w.heap.size) => by simp; omega) _)
  have hsz : (w1.alloc (.cells #[.slice av sn cv, .int .i64 0, .pointer none, .bool false] 55)).heap.size = w1.heap.size + 1 := by simp
  rw [hsz]
  generalize ((w1.alloc (.cells #[.slice av sn cv, .int .i64 0, .pointer none, .bool false] 55)).alloc (.cells #[.pointer (some ⟨w1.heap.size, 0, none⟩), .int .i64 0] 67)) = W2 at *
  have HC := Lib.hid (icalls_mem (Old w) W2 (w1.heap.size + 1) w1.heap.size bs L a n c va vb _ (fun k h => Nat.lt_of_lt_of_le h hk2.size) HLN.out hn hnc (HRD.out.keeps hk2) (HV.out.keeps hk2) HF.out hbs hm)
  have HK2 := Lib.hid hk2
  clear hm hk2 hsz hs1
  dsimp only
  (repeat (first | go_values | go_skip | go_guarded | go_step | go_upon))
  refine HC.out.mono ?_
  rintro e w3 ⟨vout, Y, R, vm, rfl, hD⟩
  obtain ⟨b0, -⟩ := cells_at hD.mem.fz
  have x0 := b0 0
  simp only [List.getElem?_toArray, List.getElem?_cons_zero] at x0
  obtain ⟨ao, co, rfl, hlo, -⟩ := hD.row.slice
  obtain ⟨am, cm, rfl, hlm, -⟩ := hD.mem.row.slice
  have HD := Lib.hid hD
  clear hD b0 HC
  dsimp only
  (repeat (first | go_values | go_skip | go_guarded | go_step | go_upon))
  go_quiet (fail)
  (repeat (first | go_values | go_skip | go_guarded | go_step | go_upon))
  go_ret2
  have hD := HD.out
  have hkq := below_keeps (below_drewN w3 nq w3.heap.size)
  exact ⟨ao, co, am, cm, R, rfl, (rdR_of hD.row hD.res.1 fun x hx => ⟨(hD.data x hx).1.mono hD.inY, (hD.data x hx).2⟩).keeps hkq, hD.res, hD.mem.row.rv.rd.keeps hkq, ((HK2.out.trans hD.keeps).below (B := w.heap.size) fun _ h => h).trans (below_drewN _ _ _), hlo, hlm⟩

end Go.Proofs.YtkkliejgmgmebaaDoor
