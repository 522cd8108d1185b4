/-
  bytes.Clone.
-/
import Derived.Test.YtaoonpncnahhgaaDoorE4
import Derived.Lib.SliceRun
namespace Go.Proofs.YtaoonpncnahhgaaDoor
open Go.RowKit

@[go_sem] theorem eql27_nil (a : Option Addr) (n c n' c' : Nat) (w : World) : (binOp .eql 27 (.slice a n c) (.slice none n' c')).run Tryd.prog w = .ok (.bool a.isNone) w := Lib.run_eql_slice_nil w _ _ a n c n' c' Tryd.underlying27

theorem add_eq (b off j : Nat) : (⟨b, off, none⟩ : Addr).add j = ⟨b, off + j, none⟩ := by
  unfold Addr.add
  split
  · rename_i h; subst h; rfl
  · rfl

/-- the cells of bytes that lie -/
theorem rdB.cells {B : Nat} {w W : World} {p : Addr} {n : Nat} {bs : List UInt8} (h : rdB B w (some p) n bs) (hb : Below B w W) : ∀ (j : Nat) (u : Value), (u8s bs)[j]? = some u → W.cell? (p.add j) = some u := by
  intro j u hj
  unfold u8s at hj
  rw [List.getElem?_map] at hj
  cases hx : bs[j]? with
  | none => rw [hx] at hj; cases hj
  | some x =>
    rw [hx] at hj
    simp only [Option.map_some, Option.some.injEq] at hj
    subst hj
    rcases h.2 with h0 | ⟨b, off, e, hlt, hc⟩
    · subst h0; simp at hx
    · cases e
      rw [add_eq]
      exact (hb.cell (p := ⟨b, off + j, none⟩) hlt).trans (hc j x hx)
theorem u8s_one {bs : List UInt8} : ∀ u ∈ u8s bs, u.oneCell' = true := by
  intro u hu
  obtain ⟨x, -, rfl⟩ := List.mem_map.1 hu
  rfl

set_option maxHeartbeats 1000000 in
theorem clone_any (a : Option Addr) (c : Nat) (bs : List UInt8) (w : World) (hl : bs.length ≤ 100000000) (h : rdB w.heap.size w a bs.length bs) :
    Calls Tryd.prog 24 #[.slice a bs.length c] w fun e w' => ∃ a' c', e = .returned (.slice a' bs.length c') ∧ bs.length ≤ c' ∧ c' ≤ 9223372036854775807 ∧ rdB5 w'.heap.size w' a' bs.length bs ∧ Below w.heap.size w w' := by
  obtain ⟨i0, hi, hz0, hz1, hz2⟩ := info_parts info5
  have H := Lib.hid h
  clear h
  cases a with
  | none =>
    have hn : bs = [] := by
      rcases H.out.2 with h | ⟨b, o, e, -⟩
      · exact h
      · cases e
    subst hn
    go_enter Tryd.func24, Tryd.ntmps24
    (repeat (first | go_values | go_skip | go_guarded | go_step | go_upon))
    go_ret
    exact ⟨none, 0, rfl, by simp, by omega, ⟨H.out, .inl rfl⟩, Below.refl _ _⟩
  | some p =>
    go_enter Tryd.func24, Tryd.ntmps24
    (repeat (first | (at_builtin; refine wpList_append_own _ rfl (.tmp 5) (.tmp 6) 27 rfl w.heap.size 5 i0 _ 1 1 Tryd.underlying27 hi hz0 hz1 hz2 rfl (by decide) _ 0 [] rfl ?own p bs.length c (u8s bs) rfl ?c0 ?c1 ?c2 ?c3 ?c4 ?c5 ?_) | go_values | go_skip | go_guarded | go_step | go_upon))
    case own => exact World.ownsRow_made w #[] 0 (Nat.le_refl _) (by decide) rfl
    case c0 => simp
    case c1 => exact H.out.cells (below1 _ _)
    case c2 => exact u8s_one
    case c3 => unfold maxLen; omega
    case c4 => omega
    case c5 => simp
    intro v' w1 hown hgrow _
    rw [Nat.zero_add, List.nil_append] at hown
    have hb : Below w.heap.size w w1 := (below1 w _).grown hgrow (by simp) (fun g hg => by cases hg; exact Nat.le_refl _)
    obtain ⟨va, vc, rfl, h1, h2, h3⟩ := owns_rdB rfl hown
    have HB := Lib.hid hb
    have H3 := Lib.hid h3
    clear hown hgrow hb h3
    (repeat (first | go_values | go_skip | go_guarded | go_step | go_upon))
    go_ret
    exact ⟨va, vc, rfl, h1, h2, H3.out, HB.out⟩

end Go.Proofs.YtaoonpncnahhgaaDoor
