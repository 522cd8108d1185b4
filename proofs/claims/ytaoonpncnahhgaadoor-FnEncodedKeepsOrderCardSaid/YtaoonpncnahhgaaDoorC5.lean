/-
  impl.values.
-/
import Derived.Test.YtaoonpncnahhgaaDoorC4
namespace Go.Proofs.YtaoonpncnahhgaaDoor
open Go.RowKit

/-- a list of interface values lies at an address -/
def rdV (B : Nat) (w : World) (a : Option Addr) (xs : List AV) : Prop :=
  xs = [] ∨ ∃ b o, a = some ⟨b, o, none⟩ ∧ b < B ∧ ∀ (i : Nat) (x : AV), xs[i]? = some x → ∃ v, w.cell? ⟨b, o + i, none⟩ = some v ∧ avIs B w x v

theorem rdV.below {B B' : Nat} {w w' : World} {a : Option Addr} {xs : List AV} (h : rdV B w a xs) (hb : Below B' w w') (hB : B ≤ B') (hs : w.heap.size ≤ B') : rdV B w' a xs :=
  h.imp id fun ⟨b, o, e, hlt, hc⟩ => ⟨b, o, e, hlt, fun i x hx => (hc i x hx).imp fun _v ⟨h1, h2⟩ => ⟨(hb.cell (p := ⟨b, o + i, none⟩) (Nat.lt_of_lt_of_le hlt hB)).trans h1, avIs_below h2 hb hB hs⟩⟩
theorem rdV.mono {B B' : Nat} {w : World} {a : Option Addr} {xs : List AV} (h : rdV B w a xs) (hB : B ≤ B') : rdV B' w a xs :=
  h.imp id fun ⟨b, o, e, hlt, hc⟩ => ⟨b, o, e, Nat.lt_of_lt_of_le hlt hB, fun i x hx => (hc i x hx).imp fun _v ⟨h1, h2⟩ => ⟨h1, avIs_mono h2 hB⟩⟩

theorem ownsRow_below {w w' : World} {base B : Nat} {e : TypeId} {size : Nat} {v : Value} {n : Nat} {xs : List Value} (h : w.ownsRow base e size v n xs) (hb : Below B w w') (hB : w.heap.size ≤ B) : w'.ownsRow base e size v n xs := by
  obtain ⟨h1, h2⟩ := h
  refine ⟨h1, h2.imp id ?_⟩
  rintro ⟨g, cap, cur, e1, e2, e3, r⟩
  refine ⟨g, cap, cur, e1, e2, ?_, r⟩
  have : g < w.heap.size := by
    rcases Nat.lt_or_ge g w.heap.size with h | h
    · exact h
    · simp [Array.getElem?_eq_none h] at e3
  rw [hb.block g (by omega), e3]

/-- values that are these, one by one -/
def areV (B : Nat) (w : World) (xs : List AV) (vs : List Value) : Prop := ∀ (i : Nat) (x : AV), xs[i]? = some x → ∃ v, vs[i]? = some v ∧ avIs B w x v
theorem areV.below {B B' : Nat} {w w' : World} {xs : List AV} {vs : List Value} (h : areV B w xs vs) (hb : Below B' w w') (hB : B ≤ B') (hS : w.heap.size ≤ B') (hs : B ≤ w'.heap.size) : areV w'.heap.size w' xs vs :=
  fun i x hx => (h i x hx).imp fun _v ⟨h1, h2⟩ => ⟨h1, avIs_mono (avIs_below h2 hb hB hS) hs⟩

theorem rdV_of_owns {w : World} {base n : Nat} {v : Value} {xs : List AV} {vs : List Value} (hl : xs.length = n) (h : w.ownsRow base 20 1 v n vs) (hv : areV w.heap.size w xs vs) :
    ∃ a c, v = .slice a n c ∧ rdV w.heap.size w a xs := by
  obtain ⟨-, h2⟩ := h
  rcases h2 with ⟨rfl, rfl⟩ | ⟨g, cap, cur, rfl, hbg, hg, hnc, hcm, hcs, htake⟩
  · exact ⟨none, 0, rfl, .inl (List.eq_nil_of_length_eq_zero hl)⟩
  · refine ⟨some ⟨g, 0, none⟩, cap, rfl, .inr ⟨g, 0, rfl, ?_, fun i x hx => ?_⟩⟩
    · rcases Nat.lt_or_ge g w.heap.size with h | h
      · exact h
      · simp [Array.getElem?_eq_none h] at hg
    · obtain ⟨u, h1, h2⟩ := hv i x hx
      refine ⟨u, ?_, h2⟩
      have hi : i < n := by
        rcases Nat.lt_or_ge i xs.length with h | h
        · omega
        · rw [List.getElem?_eq_none h] at hx; cases hx
      rw [← htake, List.getElem?_take_of_lt (by omega)] at h1
      rw [(cells_at hg).1, Nat.zero_add, ← h1]
      simp

theorem info20 : (Tryd.prog.info? 20).map (fun i => (i.zero, i.size, i.bytes)) = some (some .nilIface, 1, 16) := by kernel_rfl

theorem avIs_cells {B : Nat} {w : World} {x : AV} {v : Value} (h : avIs B w x v) : v.cells = #[v] := by
  cases x with
  | byt bs => obtain ⟨a, n, c, rfl, -⟩ := h; rfl
  | _ => subst h; rfl
theorem avIs_form {B : Nat} {w : World} {x : AV} {v : Value} (h : avIs B w x v) : v = .nilIface ∨ ∃ T z, v = .iface T z := by
  cases x with
  | byt bs => obtain ⟨a, n, c, rfl, -⟩ := h; exact .inr ⟨_, _, rfl⟩
  | nil => exact .inl h
  | _ => exact .inr ⟨_, _, h⟩
theorem avIs_one {B : Nat} {w : World} {x : AV} {v : Value} (h : avIs B w x v) : v.oneCell' = true := by
  cases x with
  | byt bs => obtain ⟨a, n, c, rfl, -⟩ := h; rfl
  | _ => subst h; rfl

/-- behind an append to a row of interface values -/
theorem avIs_grown {w w' : World} {row : Option Nat} {x : AV} {v : Value} (h : avIs w.heap.size w x v) (hg : w.grownBy w' row) (hrow : ∀ g, row = some g → ∃ cur fr, w.heap[g]? = some (.cells cur 20 fr)) : avIs w'.heap.size w' x v := by
  cases x with
  | byt bs =>
    obtain ⟨a, n, c, e, h1, h2, ⟨hl, h3⟩, h4⟩ := h
    rcases h4 with rfl | ⟨b, o, cur, fr, rfl, hlt, hb⟩
    · exact ⟨a, n, c, e, h1, h2, ⟨hl, .inl rfl⟩, .inl rfl⟩
    · have hne : some b ≠ row := fun hb' => by
        obtain ⟨cur2, fr2, h5⟩ := hrow b hb'.symm
        rw [hb] at h5
        simp at h5
      have hbb := hg.block b hlt hne
      refine ⟨_, n, c, e, h1, h2, ⟨hl, h3.imp id ?_⟩, .inr ⟨b, o, cur, fr, rfl, Nat.lt_of_lt_of_le hlt hg.size, hbb.trans hb⟩⟩
      rintro ⟨b2, o2, e2, hlt2, hc⟩
      cases e2
      exact ⟨b, o, rfl, Nat.lt_of_lt_of_le hlt hg.size, fun i x hx => (World.cell?_of_block (a := ⟨b, o + i, none⟩) hbb).trans (hc i x hx)⟩
  | _ => exact h

theorem row_of_owns {w : World} {base : Nat} {e : TypeId} {size : Nat} {v : Value} {n : Nat} {xs : List Value} (h : w.ownsRow base e size v n xs) : ∀ g, v.ownBlock = some g → ∃ cur fr, w.heap[g]? = some (.cells cur e fr) := by
  intro g hg
  rcases h.2 with ⟨rfl, -⟩ | ⟨g', cap, cur, rfl, -, h3, -⟩
  · cases hg
  · simp only [Value.ownBlock, Option.some.injEq] at hg
    subst hg
    exact ⟨cur, _, h3⟩

/-- one more value appended to a row of them -/
theorem areV_snoc {w2 w3 : World} {base n : Nat} {v : Value} {vs : List Value} {xs : List AV} {x : AV} {u : Value} (ho : w2.ownsRow base 20 1 v n vs) (hl : xs.length = n) (hv : areV w2.heap.size w2 xs vs) (hu : avIs w2.heap.size w2 x u)
    (hg : (w2.alloc (.cells #[u] 20)).grownBy w3 v.ownBlock) : areV w3.heap.size w3 (xs ++ [x]) (vs ++ [u]) := by
  have hrow := row_of_owns (ho.alloc (.cells #[u] 20))
  have hb0 : Below w2.heap.size w2 (w2.alloc (.cells #[u] 20)) := below1 _ _
  have hs0 : w2.heap.size ≤ (w2.alloc (.cells #[u] 20)).heap.size := by simp
  have hlv : vs.length = n := by have := ho.1; omega
  intro i y hy
  rcases Nat.lt_or_ge i n with h1 | h1
  · rw [List.getElem?_append_left (by omega)] at hy
    obtain ⟨z, g1, g2⟩ := hv i y hy
    refine ⟨z, ?_, avIs_grown (avIs_mono (avIs_below g2 hb0 (Nat.le_refl _) (Nat.le_refl _)) hs0) hg hrow⟩
    rw [List.getElem?_append_left (by omega)]
    exact g1
  · rw [List.getElem?_append_right (by omega)] at hy
    have hi : i - xs.length = 0 := by
      rcases Nat.eq_zero_or_pos (i - xs.length) with h | h
      · exact h
      · rw [List.getElem?_eq_none (by simp; omega)] at hy; cases hy
    rw [hi] at hy
    simp only [List.getElem?_cons_zero, Option.some.injEq] at hy
    subst hy
    refine ⟨u, ?_, avIs_grown (avIs_mono (avIs_below hu hb0 (Nat.le_refl _) (Nat.le_refl _)) hs0) hg hrow⟩
    rw [List.getElem?_append_right (by omega), hlv, ← hl, hi]
    simp

set_option maxRecDepth 100000 in
theorem values_any (a : Option Addr) (n c : Nat) (L : List Sc) (w : World) (hl : L.length = n) (hn : n ≤ 2147483647) (h : rdL w.heap.size w a L) (hok : ∀ s ∈ L, s.wf ∧ OkFacts s ∧ s.bn ≤ 2147483647) :
    Calls Tryd.prog 21 #[.slice a n c] w fun e w' => ∃ a' c', e = .returned (.slice a' n c') ∧ Below w.heap.size w w' ∧ rdV w'.heap.size w' a' (L.map avS) := by
  obtain ⟨i0, hi, hz0, hz1, hz2⟩ := info_parts info20
  have HH := Lib.hid h
  have HL := Lib.hid hl
  have HK := Lib.hid hok
  clear h hl hok
  go_enter Tryd.func21, Tryd.ntmps21
  go_wp2_with fail
  go_loopw [3, 8] (fun v i wr => ∃ (k : Nat) (vs : List Value), k ≤ n ∧ i = .int .i64 k ∧ wr.ownsRow w.heap.size 20 1 v k vs ∧ areV wr.heap.size wr ((L.take k).map avS) vs ∧ Below w.heap.size w wr) (fun _ i _ => n - (intOf i).toNat)
  case atStart => exact ⟨0, [], Nat.zero_le _, rfl, World.ownsRow_nil _ _ _ _, fun i x hx => by simp at hx, Below.refl _ _⟩
  case round =>
    obtain ⟨k, vs, hk, rfl, hown, hare, hB⟩ := hrel
    have HO := Lib.hid hown
    have HV := Lib.hid hare
    clear hown hare
    by_cases hlt : k < n
    · obtain ⟨s, hs⟩ : ∃ s, L[k]? = some s := ⟨_, List.getElem?_eq_getElem (by rw [HL.out]; exact hlt)⟩
      rcases HH.out with h0 | ⟨b, o, rfl, hb, hc⟩
      · subst h0; simp at hs
      have hsc := (hc k s hs).below hB (Nat.le_refl _) hb
      have e0 := hsc.c0
      have e1 := hsc.c1
      have e2 := hsc.c2
      have e3 := hsc.c3
      have e4 := hsc.c4
      have e5 := hsc.c5
      have hok := HK.out s (List.mem_of_getElem? hs)
      have hv := fun W (hW : Below wr.heap.size wr W) => value_any s W hok.1 hok.2.1 hok.2.2 (rdB_mono (hsc.rd.below hW hB.size) (Nat.le_trans hB.size hW.size))
      have HVAL := Lib.hid hv
      have HS := Lib.hid hs
      clear hsc hs hc hok hv
      go_wp2_with fail
      refine (HVAL.out _ (below1 wr _)).mono ?_
      rintro e w2 ⟨u, rfl, hb2, hu⟩
      have B2 := (below1 wr (.cells #[.int .i64 s.kind, .int .i64 s.int, .int .u64 (s.uint : Int), .int .u64 (s.a : Int), .int .u64 (s.b : Int), .slice s.ba s.bn s.bc] 34)).trans (hb2.mono (by simp))
      have HO2 := Lib.hid (ownsRow_below HO.out B2 (Nat.le_refl _))
      have HV2 := Lib.hid (HV.out.below B2 (Nat.le_refl _) (Nat.le_refl _) B2.size)
      have HU := Lib.hid hu
      have B3 := hB.trans (B2.mono hB.size)
      have hform := avIs_form hu
      have hBs := B3.size
      have htk : (L.take (k + 1)).map avS = (L.take k).map avS ++ [avS s] := by
        obtain ⟨l, e⟩ := List.getElem?_eq_some_iff.1 HS.out
        rw [List.take_succ_eq_append_getElem l, List.map_append, e]
        simp only [List.map_cons, List.map_nil]
      have htl : ((L.take k).map avS).length = k := by rw [List.length_map, List.length_take, HL.out]; omega
      have HTK := Lib.hid htk
      have HTL := Lib.hid htl
      clear hb2 hu B2 hB e0 e1 e2 e3 e4 e5 HVAL htk htl HO HV
      rcases hform with rfl | ⟨T, z, rfl⟩
      all_goals
        go_wp2_with (at_builtin; refine wpList_append_own _ rfl (.tmp 12) (.tmp 15) 54 rfl w.heap.size 20 i0 _ 1 16 Tryd.underlying54 hi hz0 hz1 hz2 rfl (by decide) _ k vs rfl (by exact HO2.out.alloc _) ⟨w2.heap.size, 0, none⟩ 1 1 [_] rfl rfl (by exact fun j u hj => (cell_new_list w2 _ 20 0 j).trans hj) (by intro z hz; simp at hz; subst hz; rfl) (by unfold maxLen; omega) (by omega) (by simp; omega) ?_; intro v' w3 hown' hgrow _)
        have hbk : ∀ g, Value.ownBlock _ = some g → w.heap.size ≤ g := fun g hg => (HO2.out.lt g hg).1
        have B4 := (B3.alloc B3.size _).grown hgrow (by simp; omega) hbk
        have HN := Lib.hid (areV_snoc HO2.out HTL.out HV2.out HU.out hgrow)
        have HW := Lib.hid hown'
        clear hown' hgrow hbk HV2 HO2 HU B3
        go_wp2_with fail
        go_roundw
        case rel => exact ⟨k + 1, vs ++ [_], by omega, by go_num, HW.out, by rw [HTK.out]; exact HN.out, B4⟩
        case measure => simp [intOf]; omega
    · obtain rfl : k = n := by omega
      have ho := HO.out
      have hv := HV.out
      rw [List.take_of_length_le (by rw [HL.out]; exact Nat.le_refl _)] at hv
      obtain ⟨a', c', rfl, hr⟩ := rdV_of_owns (by rw [List.length_map, HL.out]) ho hv
      have HR := Lib.hid hr
      clear ho hv hr HO HV HK
      go_wp2_with fail
      go_ret
      exact ⟨a', c', rfl, hB, HR.out⟩

end Go.Proofs.YtaoonpncnahhgaaDoor
