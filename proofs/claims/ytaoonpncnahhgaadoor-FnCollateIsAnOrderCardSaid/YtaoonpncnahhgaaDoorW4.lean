/-
  The walks of the reference's Bytes.
-/
import Derived.Test.YtaoonpncnahhgaaDoorW3
namespace Go.Proofs.YtaoonpncnahhgaaDoor
open Go.RowKit

/-- a slice of bytes reads as a list -/
def rdB (B : Nat) (w : World) (ba : Option Addr) (bn : Nat) (bs : List UInt8) : Prop :=
  bs.length = bn ∧ (bs = [] ∨ ∃ b off, ba = some ⟨b, off, none⟩ ∧ b < B ∧ ∀ (i : Nat) (x : UInt8), bs[i]? = some x → w.cell? ⟨b, off + i, none⟩ = some (.int .u8 (x.toNat : Int)))

theorem rdB.below {B B' : Nat} {w w' : World} {ba : Option Addr} {bn : Nat} {bs : List UInt8} (h : rdB B w ba bn bs) (hb : Below B' w w') (hB : B ≤ B') : rdB B w' ba bn bs := by
  obtain ⟨h1, h2⟩ := h
  refine ⟨h1, ?_⟩
  rcases h2 with h2 | ⟨b, off, rfl, hlt, hc⟩
  · exact .inl h2
  · exact .inr ⟨b, off, rfl, hlt, fun i x hx => (hb.cell (p := ⟨b, off + i, none⟩) (Nat.lt_of_lt_of_le hlt hB)).trans (hc i x hx)⟩

theorem bytesCmp_drop {xs ys : List UInt8} {k : Nat} {x : UInt8} (h1 : xs[k]? = some x) (h2 : ys[k]? = some x) : bytesCmp (xs.drop k) (ys.drop k) = bytesCmp (xs.drop (k + 1)) (ys.drop (k + 1)) := by
  obtain ⟨l1, rfl⟩ := List.getElem?_eq_some_iff.1 h1
  obtain ⟨l2, e2⟩ := List.getElem?_eq_some_iff.1 h2
  rw [List.drop_eq_getElem_cons l1, List.drop_eq_getElem_cons l2, e2]
  simp [bytesCmp]
theorem bytesCmp_lt {xs ys : List UInt8} {k : Nat} {x y : UInt8} (h1 : xs[k]? = some x) (h2 : ys[k]? = some y) (h : x.toNat < y.toNat) : bytesCmp (xs.drop k) (ys.drop k) = -1 := by
  obtain ⟨l1, rfl⟩ := List.getElem?_eq_some_iff.1 h1
  obtain ⟨l2, rfl⟩ := List.getElem?_eq_some_iff.1 h2
  rw [List.drop_eq_getElem_cons l1, List.drop_eq_getElem_cons l2]
  have : xs[k] < ys[k] := UInt8.lt_iff_toNat_lt.2 h
  simp [bytesCmp, this]
theorem bytesCmp_gt {xs ys : List UInt8} {k : Nat} {x y : UInt8} (h1 : xs[k]? = some x) (h2 : ys[k]? = some y) (h : y.toNat < x.toNat) : bytesCmp (xs.drop k) (ys.drop k) = 1 := by
  obtain ⟨l1, rfl⟩ := List.getElem?_eq_some_iff.1 h1
  obtain ⟨l2, rfl⟩ := List.getElem?_eq_some_iff.1 h2
  rw [List.drop_eq_getElem_cons l1, List.drop_eq_getElem_cons l2]
  have h3 : ys[k] < xs[k] := UInt8.lt_iff_toNat_lt.2 h
  have h4 : ¬ xs[k] < ys[k] := fun h4 => by have := UInt8.lt_iff_toNat_lt.1 h4; omega
  simp [bytesCmp, h3, h4]
theorem bytesCmp_end {xs ys : List UInt8} (h : xs = [] ∨ ys = []) : bytesCmp xs ys = if xs.length < ys.length then -1 else if ys.length < xs.length then 1 else 0 := by
  rcases h with rfl | rfl
  · cases ys <;> simp [bytesCmp]
  · cases xs <;> simp [bytesCmp]

set_option maxHeartbeats 1000000 in
theorem bytes_any (a1 a2 : Option Addr) (n1 n2 c1 c2 : Nat) (xs ys : List UInt8) (w : World) (hx : rdB w.heap.size w a1 n1 xs) (hy : rdB w.heap.size w a2 n2 ys) (hn1 : n1 ≤ 9223372036854775807) (hn2 : n2 ≤ 9223372036854775807) :
    Calls Tryd.prog 28 #[.slice a1 n1 c1, .slice a2 n2 c2] w fun e w' => e = .returned (.int .i64 (bytesCmp xs ys)) ∧ Below w.heap.size w w' := by
  have HX := Lib.hid hx
  have HY := Lib.hid hy
  clear hx hy
  by_cases hle : n1 ≤ n2
  all_goals
    go_enter Tryd.func28, Tryd.ntmps28
    go_wp2_with fail
    go_loopw [11] (fun i wr => ∃ k : Nat, k ≤ n1 ∧ k ≤ n2 ∧ i = .int .i64 k ∧ bytesCmp (xs.drop k) (ys.drop k) = bytesCmp xs ys ∧ Below w.heap.size w wr) (fun i _ => n1 - (intOf i).toNat)
    case atStart => exact ⟨0, Nat.zero_le _, Nat.zero_le _, rfl, rfl, Below.refl _ _⟩
    case round =>
      obtain ⟨k, hk1, hk2, rfl, hcmp, hB⟩ := hrel
      have HC := Lib.hid hcmp
      clear hcmp
      by_cases hlt : k < n1 ∧ k < n2
      · obtain ⟨lt1, lt2⟩ := hlt
        have g1 := HX.out
        have g2 := HY.out
        obtain ⟨l1, g1⟩ := g1
        obtain ⟨l2, g2⟩ := g2
        rcases g1 with rfl | ⟨b1, o1, rfl, hb1, hc1⟩
        · simp at l1; omega
        rcases g2 with rfl | ⟨b2, o2, rfl, hb2, hc2⟩
        · simp at l2; omega
        obtain ⟨x, hx⟩ : ∃ x, xs[k]? = some x := ⟨_, List.getElem?_eq_getElem (by omega)⟩
        obtain ⟨y, hy⟩ : ∃ y, ys[k]? = some y := ⟨_, List.getElem?_eq_getElem (by omega)⟩
        have cx := (hB.cell (p := ⟨b1, o1 + k, none⟩) hb1).trans (hc1 k x hx)
        have cy := (hB.cell (p := ⟨b2, o2 + k, none⟩) hb2).trans (hc2 k y hy)
        have HXk := Lib.hid hx
        have HYk := Lib.hid hy
        clear hc1 hc2 l1 l2 hx hy HX HY
        by_cases hxy : x = y
        · subst hxy
          go_wp2_with fail
          go_quiet (fail)
          go_wp2_with fail
          go_roundw
          case rel => exact ⟨k + 1, by omega, by omega, by go_num, (bytesCmp_drop HXk.out HYk.out).symm.trans HC.out, below_drewN hB _⟩
          case measure => simp [intOf]; omega
        · have hne : ((x.toNat : Int) != (y.toNat : Int)) = true := by
            rw [bne_iff_ne]; intro h; exact hxy (UInt8.toNat_inj.1 (by omega))
          go_wp2_with fail
          go_quiet (fail)
          go_wp2_with fail
          go_quiet (fail)
          go_wp2_with fail
          · go_ret
            have h : x.toNat < y.toNat := by assumption
            exact ⟨ret_i ((bytesCmp_lt HXk.out HYk.out h).symm.trans HC.out), by repeat (first | exact hB | apply below_drewN)⟩
          · go_ret
            have h : ¬ x.toNat < y.toNat := by assumption
            have h' : y.toNat < x.toNat := by have : x.toNat ≠ y.toNat := fun e => hxy (UInt8.toNat_inj.1 e); omega
            exact ⟨ret_i ((bytesCmp_gt HXk.out HYk.out h').symm.trans HC.out), by repeat (first | exact hB | apply below_drewN)⟩
      · have l1 := HX.out.1
        have l2 := HY.out.1
        have he := bytesCmp_end (xs := xs.drop k) (ys := ys.drop k) (by
          rcases Nat.lt_or_ge k n1 with h | h
          · exact .inr (List.drop_eq_nil_of_le (by omega))
          · exact .inl (List.drop_eq_nil_of_le (by omega)))
        rw [List.length_drop, List.length_drop, l1, l2] at he
        have HE := Lib.hid (HC.out.symm.trans he)
        clear he l1 l2 HX HY HC
        go_wp2_with fail
        all_goals
          go_ret
          refine ⟨ret_i ?_, hB⟩
          rw [HE.out]
          first
            | (rw [if_pos (by omega)]; done)
            | (rw [if_neg (by omega), if_pos (by omega)]; done)
            | (rw [if_neg (by omega), if_neg (by omega)]; done)

end Go.Proofs.YtaoonpncnahhgaaDoor
