/-
  Lists of scalars in memory; the walks of fits, narrow, Numbers, spec.Collate.
-/
import Derived.Test.YtaoonpncnahhgaaDoorW6
import Derived.Test.YtaoonpncnahhgaaDoorOrd
namespace Go.Proofs.YtaoonpncnahhgaaDoor
open Go.RowKit

/-- a scalar lies at a place -/
structure scAt (B : Nat) (w : World) (b o : Nat) (s : Sc) : Prop where
  wf : s.wf
  c0 : w.cell? ⟨b, o, none⟩ = some (.int .i64 s.kind)
  c1 : w.cell? ⟨b, o + 1, none⟩ = some (.int .i64 s.int)
  c2 : w.cell? ⟨b, o + 2, none⟩ = some (.int .u64 (s.uint : Int))
  c3 : w.cell? ⟨b, o + 3, none⟩ = some (.int .u64 (s.a : Int))
  c4 : w.cell? ⟨b, o + 4, none⟩ = some (.int .u64 (s.b : Int))
  c5 : w.cell? ⟨b, o + 5, none⟩ = some (.slice s.ba s.bn s.bc)
  rd : rdB B w s.ba s.bn s.bytes

/-- a list of scalars lies at an address -/
def rdL (B : Nat) (w : World) (a : Option Addr) (L : List Sc) : Prop :=
  L = [] ∨ ∃ b o, a = some ⟨b, o, none⟩ ∧ b < B ∧ ∀ (i : Nat) (s : Sc), L[i]? = some s → scAt B w b (o + i * 6) s

theorem scAt.below {B B' : Nat} {w w' : World} {b o : Nat} {s : Sc} (h : scAt B w b o s) (hb : Below B' w w') (hB : B ≤ B') (hlt : b < B) : scAt B w' b o s :=
  have hlt' : b < B' := Nat.lt_of_lt_of_le hlt hB
  ⟨h.wf, (hb.cell (p := ⟨b, o, none⟩) hlt').trans h.c0, (hb.cell (p := ⟨b, o + 1, none⟩) hlt').trans h.c1, (hb.cell (p := ⟨b, o + 2, none⟩) hlt').trans h.c2,
    (hb.cell (p := ⟨b, o + 3, none⟩) hlt').trans h.c3, (hb.cell (p := ⟨b, o + 4, none⟩) hlt').trans h.c4, (hb.cell (p := ⟨b, o + 5, none⟩) hlt').trans h.c5, h.rd.below hb hB⟩
theorem scAt.mono {B B' : Nat} {w : World} {b o : Nat} {s : Sc} (h : scAt B w b o s) (hB : B ≤ B') : scAt B' w b o s :=
  ⟨h.wf, h.c0, h.c1, h.c2, h.c3, h.c4, h.c5, rdB_mono h.rd hB⟩
theorem rdL.below {B B' : Nat} {w w' : World} {a : Option Addr} {L : List Sc} (h : rdL B w a L) (hb : Below B' w w') (hB : B ≤ B') : rdL B w' a L :=
  h.imp id fun ⟨b, o, e, hlt, hc⟩ => ⟨b, o, e, hlt, fun i s hs => (hc i s hs).below hb hB hlt⟩
theorem rdL.mono {B B' : Nat} {w : World} {a : Option Addr} {L : List Sc} (h : rdL B w a L) (hB : B ≤ B') : rdL B' w a L :=
  h.imp id fun ⟨b, o, e, hlt, hc⟩ => ⟨b, o, e, Nat.lt_of_lt_of_le hlt hB, fun i s hs => (hc i s hs).mono hB⟩

abbrev boxI (s : Sc) : Obj := .cells #[.int .i64 s.kind, .int .i64 s.int, .int .u64 (s.uint : Int), .int .u64 (s.a : Int), .int .u64 (s.b : Int), .slice s.ba s.bn s.bc] 34

theorem fits6_any (s : Sc) (w : World) (hn : s.bn ≤ 9223372036854775807) :
    Calls Tryd.prog 17 #[s.v] w fun e w' => e = .returned (.bool (decide (s.bn ≤ 2147483647))) ∧ Below w.heap.size w w' := by
  obtain ⟨k, i, u, a, b, ba, n, c, bs⟩ := s
  simp only at hn
  by_cases h : n ≤ 2147483647
  · go_enter Tryd.func17, Tryd.ntmps17
    go_wp2
    go_ret
    exact ⟨by simp [h], (Below.refl _ _).alloc (Nat.le_refl _) _⟩
  · go_enter Tryd.func17, Tryd.ntmps17
    go_wp2
    go_ret
    exact ⟨by simp [h], (Below.refl _ _).alloc (Nat.le_refl _) _⟩

/-- no part of it is longer than 2^31 - 1 -/
def fitsB (L : List Sc) : Bool := decide (L.length ≤ 2147483647) && L.all fun s => decide (s.bn ≤ 2147483647)

theorem below1 (w : World) (o : Obj) : Below w.heap.size w (w.alloc o) := (Below.refl _ _).alloc (Nat.le_refl _) _

theorem fits5_any (a : Option Addr) (n c : Nat) (L : List Sc) (w : World) (hl : L.length = n) (hn : n ≤ 9223372036854775807) (h : rdL w.heap.size w a L) :
    Calls Tryd.prog 7 #[.slice a n c] w fun e w' => e = .returned (.bool (fitsB L)) ∧ Below w.heap.size w w' := by
  by_cases hle : n ≤ 2147483647
  · have HH := Lib.hid h
    have HL := Lib.hid hl
    clear h hl
    go_enter Tryd.func7, Tryd.ntmps7
    go_wp2_with fail
    go_loopw [10] (fun i wr => ∃ k : Nat, k ≤ n ∧ i = .int .i64 k ∧ Below w.heap.size w wr ∧ ∀ (j : Nat) (s : Sc), j < k → L[j]? = some s → s.bn ≤ 2147483647) (fun i _ => n - (intOf i).toNat)
    case atStart => exact ⟨0, Nat.zero_le _, rfl, Below.refl _ _, fun _ _ h => absurd h (by omega)⟩
    case round =>
      obtain ⟨k, hk, rfl, hB, hall⟩ := hrel
      have HA := Lib.hid hall
      clear hall
      by_cases hlt : k < n
      · obtain ⟨s, hs⟩ : ∃ s, L[k]? = some s := ⟨_, List.getElem?_eq_getElem (by rw [HL.out]; exact hlt)⟩
        rcases HH.out with h0 | ⟨b, o, rfl, hb, hc⟩
        · subst h0; simp at hs
        have hsc := (hc k s hs).below hB (Nat.le_refl _) hb
        have e0 := hsc.c0
        have e1 := hsc.c1
        have e2 := hsc.c2
        have e3 := hsc.c3
        have e4 := hsc.c4
        have e5 := hsc.c5
        have hwf := hsc.wf.n1
        have HS := Lib.hid hs
        clear hsc hs hc
        by_cases hf : s.bn ≤ 2147483647
        · have hd : decide (s.bn ≤ 2147483647) = true := by simpa using hf
          go_wp2_with (go_at_call 17; refine (fits6_any s _ hwf).mono ?_; rintro e w2 ⟨rfl, hb2⟩)
          go_roundw
          case rel =>
            refine ⟨k + 1, by omega, by go_num, hB.trans ((below1 wr _).trans (hb2.mono (by simp)) |>.mono hB.size), fun j t hj ht => ?_⟩
            rcases Nat.lt_or_ge j k with h1 | h1
            · exact HA.out j t h1 ht
            · obtain rfl : j = k := by omega
              rw [HS.out] at ht
              cases ht
              exact hf
          case measure => simp [intOf]; omega
        · have hd : decide (s.bn ≤ 2147483647) = false := by simpa using hf
          go_wp2_with (go_at_call 17; refine (fits6_any s _ hwf).mono ?_; rintro e w2 ⟨rfl, hb2⟩)
          go_ret
          have hno : fitsB L = false := by
            unfold fitsB
            rw [Bool.and_eq_false_iff]
            refine .inr (List.all_eq_false.2 ⟨s, List.mem_of_getElem? HS.out, by simpa using hf⟩)
          exact ⟨by rw [hno]; rfl, hB.trans ((below1 wr _).trans (hb2.mono (by simp)) |>.mono hB.size)⟩
      · go_wp2_with fail
        go_ret
        have hyes : fitsB L = true := by
          unfold fitsB
          rw [Bool.and_eq_true, List.all_eq_true]
          refine ⟨by simp [HL.out, hle], fun s hs => ?_⟩
          obtain ⟨j, hj⟩ := List.getElem?_of_mem hs
          have : j < L.length := by
            rcases Nat.lt_or_ge j L.length with h1 | h1
            · exact h1
            · rw [List.getElem?_eq_none h1] at hj; cases hj
          simpa using HA.out j s (by rw [HL.out] at this; omega) hj
        exact ⟨by rw [hyes]; rfl, hB⟩
  · have hno : fitsB L = false := by
      unfold fitsB
      rw [Bool.and_eq_false_iff]
      exact .inl (by simpa [hl] using hle)
    rw [hno]
    clear hno h hl
    go_enter Tryd.func7, Tryd.ntmps7
    go_wp2_with fail
    go_ret
    exact ⟨rfl, Below.refl _ _⟩

end Go.Proofs.YtaoonpncnahhgaaDoor
