/-
  impl.Inner.
-/
import Derived.Test.YtkkliejgmgmebaaDoorN4
import Derived.Test.YtkkliejgmgmebaaDoorM12
namespace Go.Proofs.YtkkliejgmgmebaaDoor
open Go.RowKit

theorem newInner_any (w : World) (p : Option Addr) (off : Int) : Calls Tryd.prog 23 #[.iface 57 (.pointer p), .int .i64 off] w fun e w' => e = .returned (.pointer (some ⟨w.heap.size, 0, none⟩)) ∧ w' = w.alloc (.cells #[.iface 57 (.pointer p), .int .i64 off] 69) := by
  go_enter Tryd.func23, Tryd.ntmps23
  (repeat (first | go_values | go_skip | go_guarded | go_step | go_upon))
  go_ret
  exact ⟨rfl, rfl⟩

theorem icalls_inn (Pr : Nat → Prop) (w : World) (gi gm gz off0 : Nat) (pre bs : List UInt8) (L : List Op) (a : Option Addr) (n c : Nat) (va vb : Addr) (v : Value)
    (hin : Inw Pr w) (hL : L.length = n) (hn : n ≤ 1000000) (hnc : n ≤ c) (hrd : rdO Pr w a L) (hV : Vars Pr w va vb) (hfit : fitsAll L) (hbs : bs.length ≤ 262144) (hp : pre.length = off0) (ho2 : off0 ≤ 500000) (hI : InnAt Pr w gi gm off0) (hm : MemIs Pr w gm gz v (pre ++ bs)) :
    Calls Tryd.prog 20 #[.iface 61 (.pointer (some ⟨gi, 0, none⟩)), .slice a n c] w fun e w' => ∃ vout Y R vm, e = .returned vout ∧ DoneI Pr w w' gm gz pre bs L vout Y R vm := by
  have HL := Lib.hid (fun Q0 A hA hx => icalls_inn_loop Q0 Pr w gi gm gz off0 pre bs L a n c va vb v A hin hL hn hnc hrd hV hfit hbs hp ho2 hI hm hA hx)
  clear hin hL hrd hV hfit hbs hm hI
  go_enter Tryd.func20, Tryd.ntmps20
  (repeat (first | go_values | go_skip | go_guarded | go_step | go_upon))
  refine HL.out _ _ ⟨rfl, rfl, rfl, rfl, rfl, rfl, rfl⟩ ?_
  intro a' w' vout Y R vm ha hD
  obtain ⟨u, rfl⟩ := frm20 ha
  have HD := Lib.hid hD
  obtain ⟨av, cv, rfl, -⟩ := hD.row.slice
  clear hD ha
  simp only [Exit.inBlock, ↓reduceIte]
  (repeat (first | go_values | go_skip | go_guarded | go_step | go_upon))
  go_ret
  exact ⟨_, Y, R, vm, rfl, HD.out⟩

/-- what impl.Inner leaves -/
def InPost (w : World) (off0 : Nat) (pre bs : List UInt8) (L : List Op) (e : Ending) (w' : World) : Prop :=
  ∃ a1 c1 a2 c2 R, e = .returned (.tuple #[.slice a1 L.length c1, .slice a2 (off0 + (memB bs L).length) c2]) ∧ rdR w' a1 R ∧ Results bs L R ∧ Rd (Old w') w' a2 (off0 + (memB bs L).length) (pre ++ memB bs L) ∧ Below w.heap.size w w' ∧ L.length ≤ c1 ∧ (off0 + (memB bs L).length) ≤ c2

set_option maxRecDepth 100000 in
set_option maxHeartbeats 4000000 in
theorem inner_any (w : World) (pre bs : List UInt8) (off0 : Nat) (L : List Op) (sa : Option Addr) (sn sc : Nat) (a : Option Addr) (n c : Nat) (va vb : Addr)
    (hp : pre.length = off0) (ho2 : off0 ≤ 500000) (hs : Rd (Old w) w sa sn (pre ++ bs)) (hL : L.length = n) (hn : n ≤ 1000000) (hnc : n ≤ c) (hrd : rdO (Old w) w a L) (hV : Vars (Old w) w va vb) (hfit : fitsAll L) (hbs : bs.length ≤ 262144) :
    Calls Tryd.prog 14 #[.slice sa sn sc, .int .i64 (off0 : Int), .slice a n c] w (InPost w off0 pre bs L) := by
  have hsn := hs.1
  have CL := Lib.hid (clone_any (Old w) w sa sn sc (pre ++ bs) (fun _ h => h) hs (by rw [← hsn, List.length_append]; omega))
  have HRD := Lib.hid hrd
  have HV := Lib.hid hV
  have HF := Lib.hid hfit
  have HLN := Lib.hid hL
  have HSN := Lib.hid hsn
  clear hs hrd hV hfit hL hsn
  go_enter Tryd.func14, Tryd.ntmps14
  (repeat (first | go_values | go_skip | go_guarded | go_step | go_upon))
  refine CL.out.mono ?_
  rintro e w1 ⟨v, rfl, hrow, hk1, hown, -⟩
  obtain ⟨av, cv, rfl, -⟩ := hrow.slice
  have HROW := Lib.hid hrow
  have HK1 := Lib.hid hk1
  have HO := Lib.hid hown
  clear hrow hk1 hown CL
  dsimp only
  (repeat (first | go_values | go_skip | go_guarded | go_step | go_upon))
  refine (newZZ_any _ _).mono ?_
  rintro e w2 ⟨rfl, rfl⟩
  have hs1 := HK1.out.size
  have hm : MemIs (Old w) ((w1.alloc (.cells #[.slice av sn cv, .int .i64 0, .pointer none, .bool false] 55)).alloc (.cells #[.pointer (some ⟨w1.heap.size, 0, none⟩), .int .i64 0] 67)) (w1.heap.size + 1) w1.heap.size (.slice av sn cv) (pre ++ bs) := by
    refine ⟨⟨0, by omega, by omega, heap_alloc2_new _ _ _⟩, heap_alloc2_old _ _ _, fun h => ?_, fun h => ?_, ?_⟩
    · have : w1.heap.size + 1 < w.heap.size := h; omega
    · have : w1.heap.size < w.heap.size := h; omega
    · rw [HSN.out]; exact (HROW.out.alloc _).alloc _
  have hk2 : Keeps (Old w) w ((w1.alloc (.cells #[.slice av sn cv, .int .i64 0, .pointer none, .bool false] 55)).alloc (.cells #[.pointer (some ⟨w1.heap.size, 0, none⟩), .int .i64 0] 67)) :=
    (HK1.out.trans (Keeps.alloc (fun k (h : k < w.heap.size) => by omega) _)).trans (Keeps.alloc (fun k (h : k < w.heap.size) => by simp; omega) _)
  have hsz : (w1.alloc (.cells #[.slice av sn cv, .int .i64 0, .pointer none, .bool false] 55)).heap.size = w1.heap.size + 1 := by simp
  rw [hsz]
  generalize ((w1.alloc (.cells #[.slice av sn cv, .int .i64 0, .pointer none, .bool false] 55)).alloc (.cells #[.pointer (some ⟨w1.heap.size, 0, none⟩), .int .i64 0] 67)) = WB at *
  have HM := Lib.hid hm
  have HKB := Lib.hid hk2
  clear hm hk2 hsz hs1
  dsimp only
  (repeat (first | go_values | go_skip | go_guarded | go_step | go_upon))
  refine (newInner_any _ _ _).mono ?_
  rintro e w2 ⟨rfl, rfl⟩
  have hs1 := HKB.out.size
  have hkA : Keeps (Old WB) WB (WB.alloc (.cells #[.iface 57 (.pointer (some ⟨w1.heap.size + 1, 0, none⟩)), .int .i64 (off0 : Int)] 69)) := Keeps.alloc (fun _ h => h) _
  have hm : MemIs (fun k => Old w k ∨ k = WB.heap.size) (WB.alloc (.cells #[.iface 57 (.pointer (some ⟨w1.heap.size + 1, 0, none⟩)), .int .i64 (off0 : Int)] 69)) (w1.heap.size + 1) w1.heap.size (.slice av sn cv) (pre ++ bs) :=
    (HM.out.widen fun k hk hn hor => hor.elim hn fun e => by omega).kept hkA fun k hk _ => hk
  have hI : InnAt (fun k => Old w k ∨ k = WB.heap.size) (WB.alloc (.cells #[.iface 57 (.pointer (some ⟨w1.heap.size + 1, 0, none⟩)), .int .i64 (off0 : Int)] 69)) WB.heap.size (w1.heap.size + 1) off0 := ⟨.inr rfl, heap_alloc_new _ _⟩
  have hk2 : Keeps (Old w) w (WB.alloc (.cells #[.iface 57 (.pointer (some ⟨w1.heap.size + 1, 0, none⟩)), .int .i64 (off0 : Int)] 69)) := HKB.out.trans (hkA.mono fun k (h : k < w.heap.size) => Nat.lt_of_lt_of_le h hs1)
  have hin : Inw (fun k => Old w k ∨ k = WB.heap.size) (WB.alloc (.cells #[.iface 57 (.pointer (some ⟨w1.heap.size + 1, 0, none⟩)), .int .i64 (off0 : Int)] 69)) := fun k hk => by
    rcases hk with h | h
    · exact Nat.lt_of_lt_of_le h hk2.size
    · simp; omega
  generalize (WB.alloc (.cells #[.iface 57 (.pointer (some ⟨w1.heap.size + 1, 0, none⟩)), .int .i64 (off0 : Int)] 69)) = W2 at *
  have HC := Lib.hid (icalls_inn (fun k => Old w k ∨ k = WB.heap.size) W2 WB.heap.size (w1.heap.size + 1) w1.heap.size off0 pre bs L a n c va vb _ hin HLN.out hn hnc ((HRD.out.keeps hk2).mono fun _ h => .inl h) ((HV.out.keeps hk2).mono fun _ h => .inl h) HF.out hbs hp ho2 hI hm)
  have HK2 := Lib.hid hk2
  clear hm hk2 hs1 hI hin hkA
  dsimp only
  (repeat (first | go_values | go_skip | go_guarded | go_step | go_upon))
  refine HC.out.mono ?_
  rintro e w3 ⟨vout, Y, R, vm, rfl, hD⟩
  obtain ⟨b0, -⟩ := cells_at hD.mem.fz
  have x0 := b0 0
  simp only [List.getElem?_toArray, List.getElem?_cons_zero] at x0
  obtain ⟨ao, co, rfl, hlo, -⟩ := hD.row.slice
  obtain ⟨am, cm, rfl, hlm, -⟩ := hD.mem.row.slice
  have HD := Lib.hid hD
  clear hD b0 HC
  dsimp only
  (repeat (first | go_values | go_skip | go_guarded | go_step | go_upon))
  go_quiet (fail)
  (repeat (first | go_values | go_skip | go_guarded | go_step | go_upon))
  go_ret2
  have hD := HD.out
  have hkq := below_keeps (below_drewN w3 nq w3.heap.size)
  have hl : (pre ++ memB bs L).length = off0 + (memB bs L).length := by rw [List.length_append, hp]
  have hrd := hD.mem.row.rv.rd
  rw [hl] at hrd hlm
  exact ⟨ao, co, am, cm, R, rfl, (rdR_of hD.row hD.res.1 fun x hx => ⟨(hD.data x hx).1.mono hD.inY, (hD.data x hx).2⟩).keeps hkq, hD.res, hrd.keeps hkq, ((HK2.out.trans (hD.keeps.mono fun _ h => .inl h)).below (B := w.heap.size) fun _ h => h).trans (below_drewN _ _ _), hlo, hlm⟩

end Go.Proofs.YtkkliejgmgmebaaDoor
