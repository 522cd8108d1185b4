/-
  impl.scalar at what is decoded.
-/
import Derived.Test.YtaoonpncnahhgaaDoorC5
import Derived.Test.YtaoonpncnahhgaaDoorDa
namespace Go.Proofs.YtaoonpncnahhgaaDoor
open Go.RowKit

/-- impl.scalar at this value -/
def Scal25 (y : AV) : Prop :=
  ∀ (v : Value) (w : World), avIs w.heap.size w y v → Calls Tryd.prog 25 #[v] w fun e w' => ∃ s : Sc, e = .returned s.v ∧ avS s = y ∧ s.wf ∧ OkFacts s ∧ s.bn ≤ 2147483647 ∧ Below w.heap.size w w' ∧ rdB5 w'.heap.size w' s.ba s.bn s.bytes

theorem rdB5_none (B : Nat) (w : World) : rdB5 B w none 0 [] := ⟨⟨rfl, .inl rfl⟩, .inl rfl⟩

theorem ok_i64 (n : Int) (h0 : -9223372036854775808 ≤ n) (h1 : n ≤ 9223372036854775807) :
    avS ⟨6, n, 0, 0, 0, none, 0, 0, []⟩ = .i64 n ∧ Sc.wf ⟨6, n, 0, 0, 0, none, 0, 0, []⟩ ∧ OkFacts ⟨6, n, 0, 0, 0, none, 0, 0, []⟩ := by
  refine ⟨rfl, ⟨?_, ?_, ?_, ?_, ?_, ?_, ?_, ?_, ?_, ?_, ?_⟩, ⟨?_, ?_, ?_, ?_, ?_, ?_, ?_, ?_, ?_, ?_⟩⟩ <;> simp <;> omega

set_option maxRecDepth 100000 in
set_option maxHeartbeats 1000000 in
theorem scal_i64 (n : Int) (h0 : -9223372036854775808 ≤ n) (h1 : n ≤ 9223372036854775807) : Scal25 (.i64 n) := by
  intro v w hv
  subst hv
  show Calls Tryd.prog 25 #[.iface 2 (.int .i64 n)] w _
  go_enter Tryd.func25, Tryd.ntmps25
  (repeat (first | go_values | go_skip | go_guarded | go_step | go_step3 | go_upon))
  obtain ⟨a1, a2, a3⟩ := ok_i64 n h0 h1
  exact bodyPost_ret (v := Sc.v ⟨6, n, 0, 0, 0, none, 0, 0, []⟩) (results_cell_row (P := Tryd.prog) Tryd.results25 _ _ w.heap.size 34 _ _ _ rfl (heap_alloc_new _ _) Tryd.underlying34 rfl (by kernel_rfl)) rfl ⟨_, rfl, a1, a2, a3, by simp, below1 _ _, rdB5_none _ _⟩

end Go.Proofs.YtaoonpncnahhgaaDoor

namespace Go.Proofs.YtaoonpncnahhgaaDoor
open Go.RowKit

theorem info34 : (Tryd.prog.info? 34).map (fun i => (i.zero, i.size, i.bytes)) = some (some (.agg #[.int .i64 0, .int .i64 0, .int .u64 0, .int .u64 0, .int .u64 0, .slice none 0 0]), 6, 64) := by kernel_rfl

theorem rdB5_grown {w w' : World} {row : Option Nat} {a : Option Addr} {n : Nat} {bs : List UInt8} (h : rdB5 w.heap.size w a n bs) (hg : w.grownBy w' row) (hrow : ∀ g, row = some g → ∃ cur fr, w.heap[g]? = some (.cells cur 34 fr)) : rdB5 w'.heap.size w' a n bs := by
  obtain ⟨⟨hl, h3⟩, h4⟩ := h
  rcases h4 with rfl | ⟨b, o, cur, fr, rfl, hlt, hb⟩
  · exact ⟨⟨hl, .inl rfl⟩, .inl rfl⟩
  · have hne : some b ≠ row := fun hb' => by
      obtain ⟨cur2, fr2, h5⟩ := hrow b hb'.symm
      rw [hb] at h5
      simp at h5
    have hbb := hg.block b hlt hne
    refine ⟨⟨hl, h3.imp id ?_⟩, .inr ⟨b, o, cur, fr, rfl, Nat.lt_of_lt_of_le hlt hg.size, hbb.trans hb⟩⟩
    rintro ⟨b2, o2, e2, hlt2, hc⟩
    cases e2
    exact ⟨b, o, rfl, Nat.lt_of_lt_of_le hlt hg.size, fun i x hx => (World.cell?_of_block (a := ⟨b, o + i, none⟩) hbb).trans (hc i x hx)⟩

/-- scalars that were made, in memory -/
def scs (w : World) (ss : List Sc) : Prop := ∀ s ∈ ss, s.wf ∧ OkFacts s ∧ s.bn ≤ 2147483647 ∧ rdB5 w.heap.size w s.ba s.bn s.bytes

theorem rdB5_mono {B B' : Nat} {w : World} {a : Option Addr} {n : Nat} {bs : List UInt8} (h : rdB5 B w a n bs) (hB : B ≤ B') : rdB5 B' w a n bs := ⟨rdB_mono h.1 hB, h.2⟩

theorem scs_below {w w' : World} {ss : List Sc} (h : scs w ss) (hb : Below w.heap.size w w') : scs w' ss := fun s hs =>
  have g := h s hs
  ⟨g.1, g.2.1, g.2.2.1, rdB5_mono (g.2.2.2.below hb (Nat.le_refl _) (Nat.le_refl _)) hb.size⟩

theorem scs_snoc {w2 w3 : World} {base n : Nat} {v : Value} {vs : List Value} {ss : List Sc} {s : Sc} {o : Obj} (ho : w2.ownsRow base 34 6 v n vs) (hv : scs w2 ss) (hs : s.wf ∧ OkFacts s ∧ s.bn ≤ 2147483647 ∧ rdB5 w2.heap.size w2 s.ba s.bn s.bytes)
    (hg : (w2.alloc o).grownBy w3 v.ownBlock) : scs w3 (ss ++ [s]) := by
  have hrow := row_of_owns (ho.alloc o)
  have hall : scs w2 (ss ++ [s]) := fun t ht => by
    rw [List.mem_append] at ht
    rcases ht with ht | ht
    · exact hv t ht
    · rw [List.mem_singleton] at ht; subst ht; exact hs
  have h1 := scs_below hall (below1 w2 o)
  exact fun t ht => have g := h1 t ht; ⟨g.1, g.2.1, g.2.2.1, rdB5_grown g.2.2.2 hg hrow⟩

theorem rdL_of_owns' {w : World} {base n : Nat} {v : Value} {L : List Sc} (hl : L.length = n) (h : w.ownsRow base 34 6 v n (L.flatMap Sc.cells)) (hw : ∀ s ∈ L, s.wf ∧ rdB w.heap.size w s.ba s.bn s.bytes) :
    ∃ a c, v = .slice a n c ∧ rdL w.heap.size w a L := by
  obtain ⟨-, h2⟩ := h
  rcases h2 with ⟨rfl, rfl⟩ | ⟨g, cap, cur, rfl, hbg, hg, hnc, hcm, hcs, htake⟩
  · exact ⟨none, 0, rfl, .inl (List.eq_nil_of_length_eq_zero hl)⟩
  · refine ⟨some ⟨g, 0, none⟩, cap, rfl, .inr ⟨g, 0, rfl, ?_, fun i s hs => ?_⟩⟩
    · rcases Nat.lt_or_ge g w.heap.size with h | h
      · exact h
      · simp [Array.getElem?_eq_none h] at hg
    · have hi : i < n := by
        rcases Nat.lt_or_ge i L.length with h | h
        · omega
        · rw [List.getElem?_eq_none h] at hs; cases hs
      have hc : ∀ j, j < 6 → w.cell? ⟨g, 0 + i * 6 + j, none⟩ = s.cells[j]? := fun j hj => by
        have h1 := cells_get L i s hs j hj
        rw [← htake, List.getElem?_take_of_lt (by omega)] at h1
        rw [(cells_at hg).1, Nat.zero_add, ← h1]
        simp
      have hm := hw s (List.mem_of_getElem? hs)
      exact ⟨hm.1, hc 0 (by omega), hc 1 (by omega), hc 2 (by omega), hc 3 (by omega), hc 4 (by omega), hc 5 (by omega), hm.2⟩

set_option maxRecDepth 100000 in
set_option maxHeartbeats 2000000 in
theorem decode_of (a : Option Addr) (n c : Nat) (bs : List UInt8) (ys : List AV) (N : Nat) (hys : ys.length = N) (hN : N ≤ 100000000) (w : World)
    (h24 : Calls Tryd.prog 24 #[.slice a n c] w fun e w' => ∃ a' c', e = .returned (.slice a' n c') ∧ n ≤ c' ∧ c' ≤ 9223372036854775807 ∧ rdB5 w'.heap.size w' a' n bs ∧ Below w.heap.size w w') 
    (h23 : ∀ a' c' W, n ≤ c' → c' ≤ 9223372036854775807 → rdB5 W.heap.size W a' n bs → Calls Tryd.prog 23 #[.slice a' n c'] W fun e w' => ∃ a' c', e = .returned (.tuple #[.slice a' N c', .nilIface]) ∧ rdV w'.heap.size w' a' ys ∧ Below W.heap.size W w')
    (hS : ∀ y ∈ ys, Scal25 y) :
    Calls Tryd.prog 10 #[.slice a n c] w fun e w' => ∃ a' c' ss, e = .returned (.tuple #[.slice a' N c', .int .i64 0]) ∧ ss.map avS = ys ∧ scs w' ss ∧ rdL w'.heap.size w' a' ss ∧ Below w.heap.size w w' := by
  obtain ⟨i0, hi, hz0, hz1, hz2⟩ := info_parts info34
  have H24 := Lib.hid h24
  have H23 := Lib.hid h23
  have HS := Lib.hid hS
  have HYS := Lib.hid hys
  clear h24 h23 hS hys
  go_enter Tryd.func10, Tryd.ntmps10
  (repeat (first | go_values | go_skip | go_guarded | go_step | go_upon))
  refine H24.out.mono ?_
  rintro e w1 ⟨b1, d1, rfl, hd1, hd2, r1, hb1⟩
  have R1 := Lib.hid r1
  clear r1
  dsimp only
  (repeat (first | go_values | go_skip | go_guarded | go_step | go_upon))
  refine (H23.out b1 d1 w1 hd1 hd2 R1.out).mono ?_
  rintro e w2 ⟨b2, d2, rfl, r2, hb2⟩
  have hb3 := hb1.trans (hb2.mono hb1.size)
  have R2 := Lib.hid r2
  have hs2 := hb3.size
  clear r2 R1 hb1 hb2 H24 H23
  dsimp only
  (repeat (first | go_values | go_skip | go_guarded | go_step | go_upon))
  go_loopw [2, 16] (fun v i wr => ∃ (k : Nat) (ss : List Sc), k ≤ N ∧ i = .int .i64 k ∧ wr.ownsRow w2.heap.size 34 6 v k (ss.flatMap Sc.cells) ∧ ss.map avS = ys.take k ∧ scs wr ss ∧ Below w2.heap.size w2 wr) (fun _ i _ => N - (intOf i).toNat)
  case atStart => exact ⟨0, [], Nat.zero_le _, rfl, World.ownsRow_nil _ _ _ _, rfl, (fun s hs => by cases hs), Below.refl _ _⟩
  case round =>
    obtain ⟨k, ss, hk, rfl, hown, hmap, hscs, hB⟩ := hrel
    have HO := Lib.hid hown
    have HM := Lib.hid hmap
    have HC := Lib.hid hscs
    clear hown hmap hscs
    by_cases hlt : k < N
    · obtain ⟨y, hy⟩ : ∃ y, ys[k]? = some y := ⟨_, List.getElem?_eq_getElem (by rw [HYS.out]; exact hlt)⟩
      rcases R2.out with h0 | ⟨b, o, rfl, hb, hc⟩
      · subst h0; simp at hy
      obtain ⟨v, hv, hv2⟩ := hc k y hy
      have hcell : wr.cell? ⟨b, o + k, none⟩ = some v := (hB.cell (p := ⟨b, o + k, none⟩) hb).trans hv
      have hav : avIs wr.heap.size wr y v := avIs_mono (avIs_below hv2 hB (Nat.le_refl _) (Nat.le_refl _)) hB.size
      have HCALL := Lib.hid (HS.out y (List.mem_of_getElem? hy) v wr hav)
      have HY := Lib.hid hy
      have hform := avIs_form hv2
      clear hv hv2 hy hc hav
      rcases hform with rfl | ⟨T, z, rfl⟩
      all_goals
        (repeat (first | go_values | go_skip | go_guarded | go_step | go_upon))
        refine HCALL.out.mono ?_
        rintro e w3 ⟨s, rfl, hsy, swf, sok, sbn, hb4, hrd⟩
        have B3 := hB.trans (hb4.mono hB.size)
        have hBs := B3.size
        have HO3 := Lib.hid (ownsRow_below HO.out hb4 (Nat.le_refl _))
        have HC3 := Lib.hid (scs_below HC.out hb4)
        have HSS := Lib.hid (show s.wf ∧ OkFacts s ∧ s.bn ≤ 2147483647 ∧ rdB5 w3.heap.size w3 s.ba s.bn s.bytes from ⟨swf, sok, sbn, hrd⟩)
        have HSY := Lib.hid hsy
        clear hsy swf sok sbn hb4 hrd hB HO HC HCALL hcell
        obtain ⟨kd, it, uu, fa, fb, ba, bn, bc, bbs⟩ := s
        dsimp only
        (repeat (first | (at_builtin; refine wpList_append_own _ rfl (.tmp 20) (.tmp 23) 22 rfl w2.heap.size 34 i0 _ 6 64 Tryd.underlying22 hi hz0 hz1 hz2 rfl (by decide) _ k (ss.flatMap Sc.cells) rfl ?own ⟨w3.heap.size, 0, none⟩ 1 1 [.int .i64 kd, .int .i64 it, .int .u64 (uu : Int), .int .u64 (fa : Int), .int .u64 (fb : Int), .slice ba bn bc] rfl rfl ?c1 ?c2 ?c3 ?c4 ?c5 ?_) | go_values | go_skip | go_guarded | go_step | go_upon))
        case own => exact HO3.out.alloc _
        case c1 => exact fun j u hj => (cell_new_list w3 _ 34 0 j).trans hj
        case c2 => intro u hu; simp at hu; rcases hu with rfl | rfl | rfl | rfl | rfl | rfl <;> rfl
        case c3 => unfold maxLen; omega
        case c4 => omega
        case c5 => show _ ≤ (w3.alloc _).heap.size; simp; omega
        intro v' w4 hown' hgrow _
        have hbk : ∀ g, Value.ownBlock _ = some g → w2.heap.size ≤ g := fun g hg => (HO3.out.lt g hg).1
        have B4 := (B3.alloc B3.size (.cells #[.int .i64 kd, .int .i64 it, .int .u64 (uu : Int), .int .u64 (fa : Int), .int .u64 (fb : Int), .slice ba bn bc] 34)).grown hgrow (by show _ ≤ (w3.alloc _).heap.size; simp; omega) hbk
        have HC4 := Lib.hid (scs_snoc HO3.out HC3.out HSS.out hgrow)
        have HO4 := Lib.hid hown'
        clear hown' hgrow hbk HO3 HC3 HSS B3
        (repeat (first | go_values | go_skip | go_guarded | go_step | go_upon))
        go_roundw
        case rel =>
          refine ⟨k + 1, ss ++ [⟨kd, it, uu, fa, fb, ba, bn, bc, bbs⟩], by omega, by go_num, ?_, ?_, HC4.out, B4⟩
          · rw [List.flatMap_append]; exact HO4.out
          · obtain ⟨l, e⟩ := List.getElem?_eq_some_iff.1 HY.out
            rw [List.take_succ_eq_append_getElem l, List.map_append, HM.out, e]
            simp only [List.map_cons, List.map_nil, HSY.out]
        case measure => simp [intOf]; omega
    · obtain rfl : k = N := by omega
      have ho := HO.out
      have hm := HM.out
      rw [List.take_of_length_le (by rw [HYS.out]; exact Nat.le_refl _)] at hm
      have hls : ss.length = k := by rw [← HYS.out, ← hm, List.length_map]
      obtain ⟨a', c', rfl, hr⟩ := rdL_of_owns' hls ho (fun s hs => ⟨(HC.out s hs).1, (HC.out s hs).2.2.2.1⟩)
      have HR := Lib.hid hr
      have HMM := Lib.hid hm
      clear ho hm hls hr HO HM
      (repeat (first | go_values | go_skip | go_guarded | go_step | go_upon))
      refine (kind_nil _).mono ?_
      rintro e w3 ⟨rfl, rfl⟩
      dsimp only
      (repeat (first | go_values | go_skip | go_guarded | go_step | go_upon))
      go_ret2
      exact ⟨a', c', ss, rfl, HMM.out, HC.out, HR.out, hb3.trans (hB.mono hs2)⟩

end Go.Proofs.YtaoonpncnahhgaaDoor

namespace Go.Proofs.YtaoonpncnahhgaaDoor
open Go.RowKit

theorem avS_i64 {s : Sc} {n : Int} (h : OkFacts s) (e : avS s = .i64 n) : s.int = n := by
  obtain ⟨kd, it, u, fa, fb, ba, bn, bc, bs⟩ := s
  have h0 := h.k0
  have h1 := h.k1
  simp only at h0 h1
  obtain rfl | rfl | rfl | rfl | rfl | rfl | rfl | rfl | rfl | rfl | rfl | rfl | rfl | rfl | rfl | rfl | rfl | rfl : kd = 0 ∨ kd = 1 ∨ kd = 2 ∨ kd = 3 ∨ kd = 4 ∨ kd = 5 ∨ kd = 6 ∨ kd = 7 ∨ kd = 8 ∨ kd = 9 ∨ kd = 10 ∨ kd = 11 ∨ kd = 12 ∨ kd = 13 ∨ kd = 14 ∨ kd = 15 ∨ kd = 16 ∨ kd = 17 := by omega
  all_goals first | cases e; done | (cases e; rfl)

abbrev s7 : Sc := ⟨6, 7, 0, 0, 0, none, 0, 0, []⟩

/-- the bytes of a small number -/
def enc7 : AV → List UInt8 := fun _ => [92]

theorem rd7 (w : World) : rdL (w.alloc (.cells #[.int .i64 6, .int .i64 7, .int .u64 0, .int .u64 0, .int .u64 0, .slice none 0 0] 34)).heap.size (w.alloc (.cells #[.int .i64 6, .int .i64 7, .int .u64 0, .int .u64 0, .int .u64 0, .slice none 0 0] 34)) (some ⟨w.heap.size, 0, none⟩) [s7] := by
  have hc := (cells_at (heap_new w (.cells #[.int .i64 6, .int .i64 7, .int .u64 0, .int .u64 0, .int .u64 0, .slice none 0 0] 34))).1
  refine .inr ⟨w.heap.size, 0, rfl, by simp, fun i s hs => ?_⟩
  cases i with
  | succ i => simp at hs
  | zero =>
    simp only [List.getElem?_cons_zero, Option.some.injEq] at hs
    subst hs
    exact ⟨(ok_i64 7 (by omega) (by omega)).2.1, hc 0, hc 1, hc 2, hc 3, hc 4, hc 5, rfl, .inl rfl⟩

set_option maxRecDepth 100000 in
set_option maxHeartbeats 1000000 in
theorem wakes_any (w : World) : Calls Tryd.prog 13 #[] w fun e w' => e = .returned (.bool true) ∧ Below w.heap.size w w' := by
  have hk := ok_i64 7 (by omega) (by omega)
  have h1 := fun c => implEncode_any (some ⟨w.heap.size, 0, none⟩) 1 c [s7] enc7 (w.alloc (.cells #[.int .i64 6, .int .i64 7, .int .u64 0, .int .u64 0, .int .u64 0, .slice none 0 0] 34)) rfl (by omega) (rd7 w) (fun s hs => by
      rw [List.mem_singleton] at hs; subst hs; exact ⟨hk.2.1, hk.2.2, by simp⟩)
      (fun x hx => by
        simp only [List.map_cons, List.map_nil, List.mem_singleton] at hx
        subst hx
        exact round20_small 7 (by omega) (by omega)) [92] rfl (by simp)
  have h2 := fun (a : Option Addr) (c : Nat) (W : World) (hr : rdB W.heap.size W a 1 [92]) => decode_of a 1 c [92] [.i64 7] 1 rfl (by omega) W (clone_any a c [92] W (by simp) hr)
      (fun a' c' W' hc1 hc2 hr' => decs_any a' c' [([92], .i64 7)] [92] rfl W' (by simp) hc1 hc2 (by simp) (by simp) hr'.1 (fun p hp => by
        rw [List.mem_singleton] at hp; subst hp; exact ⟨round23_small 92 (by decide), by simp⟩))
      (fun y hy => by rw [List.mem_singleton] at hy; subst hy; exact scal_i64 7 (by omega) (by omega))
  have H1 := Lib.hid h1
  have H2 := Lib.hid h2
  clear h1 h2 hk
  go_enter Tryd.func13, Tryd.ntmps13
  (repeat (first | go_values | go_skip | go_guarded | go_step | go_upon))
  refine (H1.out _).mono ?_
  rintro e w1 ⟨b1, d1, rfl, r1, hb1⟩
  have B1 := (below1 w (.cells #[.int .i64 6, .int .i64 7, .int .u64 0, .int .u64 0, .int .u64 0, .slice none 0 0] 34)).trans (hb1.mono (by simp))
  have R1 := Lib.hid r1
  clear r1 hb1
  dsimp only [List.length_cons, List.length_nil, Nat.zero_add]
  (repeat (first | go_values | go_skip | go_guarded | go_step | go_upon))
  refine (H2.out b1 d1 w1 R1.out).mono ?_
  rintro e w2 ⟨b2, d2, ss, rfl, hss, hsc, hr, hb2⟩
  have B2 := B1.trans (hb2.mono B1.size)
  obtain ⟨s, rfl⟩ := List.length_eq_one_iff.1 (show ss.length = 1 by have := congrArg List.length hss; simpa using this)
  have hs7 : s.int = 7 := avS_i64 (hsc s (List.mem_singleton.2 rfl)).2.1 (List.head_eq_of_cons_eq hss)
  rcases hr with h0 | ⟨b, o, rfl, hb, hc⟩
  · cases h0
  have e1 := (hc 0 s rfl).c1
  rw [hs7] at e1
  simp only [Nat.zero_mul, Nat.add_zero] at e1
  clear hc hsc R1 H1 H2 hss
  dsimp only
  (repeat (first | go_values | go_skip | go_guarded | go_step | go_upon))
  go_ret
  exact ⟨rfl, B2⟩

end Go.Proofs.YtaoonpncnahhgaaDoor
