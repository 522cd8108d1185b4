/-
  The walk of the laws' scalars.
-/
import Derived.Test.YtaoonpncnahhgaaDoorWa
import Derived.Deep.DeepCutAuto
namespace Go.Proofs.YtaoonpncnahhgaaDoor
open Go.RowKit

theorem info35 : (Tryd.prog.info? 35).map (fun i => (i.zero, i.size, i.bytes)) = some (some (.agg #[.int .i64 0, .int .i64 0, .int .u64 0, .int .u64 0, .int .u64 0, .slice none 0 0]), 6, 64) := by kernel_rfl

def bitsAt : Nat → Nat := fun k => [0, 1, 8, 16, 32, 64, 64, 8, 16, 32, 64, 64, 0, 0, 0, 0, 0, 0].getD k 0
theorem bits_at (q : Nat) (h : q ≤ 17) : ∃ bt : Nat, bt = bitsAt q ∧ bt ≤ 64 ∧ ([Value.int .i64 0, Value.int .i64 1, Value.int .i64 8, Value.int .i64 16, Value.int .i64 32, Value.int .i64 64, Value.int .i64 64, Value.int .i64 8, Value.int .i64 16, Value.int .i64 32, Value.int .i64 64, Value.int .i64 64, Value.int .i64 0, Value.int .i64 0, Value.int .i64 0, Value.int .i64 0, Value.int .i64 0, Value.int .i64 0] : List Value)[q]? = some (.int .i64 (bt : Int)) ∧ (#[Value.int .i64 0, Value.int .i64 1, Value.int .i64 8, Value.int .i64 16, Value.int .i64 32, Value.int .i64 64, Value.int .i64 64, Value.int .i64 8, Value.int .i64 16, Value.int .i64 32, Value.int .i64 64, Value.int .i64 64, Value.int .i64 0, Value.int .i64 0, Value.int .i64 0, Value.int .i64 0, Value.int .i64 0, Value.int .i64 0] : Array Value)[q]? = some (.int .i64 (bt : Int)) := by
  refine ⟨bitsAt q, rfl, ?_⟩
  obtain rfl | rfl | rfl | rfl | rfl | rfl | rfl | rfl | rfl | rfl | rfl | rfl | rfl | rfl | rfl | rfl | rfl | rfl : q = 0 ∨ q = 1 ∨ q = 2 ∨ q = 3 ∨ q = 4 ∨ q = 5 ∨ q = 6 ∨ q = 7 ∨ q = 8 ∨ q = 9 ∨ q = 10 ∨ q = 11 ∨ q = 12 ∨ q = 13 ∨ q = 14 ∨ q = 15 ∨ q = 16 ∨ q = 17 := by omega
  all_goals exact ⟨by decide, rfl, rfl⟩
/-- the bytes of lists, together -/
def lens (L : List Sc) : Nat := (L.map Sc.bn).sum
def bad1 (q : Nat) (it : Int) : Bool := ((q : Int) == 1) && (it != 0) && (it != 1)
def bad2 (q bt : Nat) (it : Int) : Bool := decide (1 < q) && decide (q < 7) && (wrap64 (it * 2 ^ (64 - bt)) / 2 ^ (64 - bt) != it)
def bad3 (q bt : Nat) (u : Nat) : Bool := decide (7 ≤ q) && decide (q < 12) && (IntKind.u64.wrap ((u : Int) * 2 ^ (64 - bt)) / 2 ^ (64 - bt) != (u : Int))
def bad4 (q : Nat) (a b : Nat) : Bool := (decide (q = 12) || decide (q = 14)) && (!(decide (a % 536870912 = 0)) || !(decide (b % 536870912 = 0)) || !(narrowB a) || !(narrowB b))
abbrev Sc.cells (s : Sc) : List Value := [.int .i64 s.kind, .int .i64 s.int, .int .u64 (s.uint : Int), .int .u64 (s.a : Int), .int .u64 (s.b : Int), .slice s.ba s.bn s.bc]

theorem world3 (w : World) (cs ds es : Array Value) (s t r : TypeId) :
    Below w.heap.size w (((w.alloc (.cells cs s)).alloc (.cells ds t)).alloc (.cells es r)) ∧ w.heap.size + 2 < (((w.alloc (.cells cs s)).alloc (.cells ds t)).alloc (.cells es r)).heap.size ∧
      (((w.alloc (.cells cs s)).alloc (.cells ds t)).alloc (.cells es r)).heap[w.heap.size]? = some (.cells cs s) ∧ (((w.alloc (.cells cs s)).alloc (.cells ds t)).alloc (.cells es r)).heap[w.heap.size + 1]? = some (.cells ds t) :=
  ⟨three_below _ _ _ _, by simp, (Below.heap_alloc _ _ _ (by simp; omega)).trans (heap_new1 _ _ _), (Below.heap_alloc _ _ _ (by simp)).trans (heap_new2 _ _ _)⟩

/-- a scalar of which something is said -/
def okS (s : Sc) : Bool := decide (0 ≤ s.kind) && decide (s.kind ≤ 17) && (!(bad1 s.kind.toNat s.int) && !(bad2 s.kind.toNat (bitsAt s.kind.toNat) s.int) && !(bad3 s.kind.toNat (bitsAt s.kind.toNat) s.uint) && !(bad4 s.kind.toNat s.a s.b))
def okB (L : List Sc) : Bool := L.all okS && (decide (L.length ≤ 1000) && decide (lens L ≤ 60000) && numsB L)

/-- what the laws' scalars comes to -/
def ScPost (L : List Sc) (w : World) (e : Ending) (w' : World) : Prop :=
  ∃ v, e = .returned (.tuple #[v, .bool (okB L)]) ∧ Below w.heap.size w w' ∧ (okB L = true → ∃ a c, v = .slice a L.length c ∧ rdL w'.heap.size w' a L)

theorem ScPost.no {L : List Sc} {w w' : World} (h : Below w.heap.size w w') {s : Sc} (hs : s ∈ L) (hn : okS s = false) (v : Value) : ScPost L w (.returned (.tuple #[v, .bool false])) w' := by
  have h1 : okB L = false := by
    unfold okB
    rw [Bool.and_eq_false_iff]
    exact .inl (List.all_eq_false.2 ⟨s, hs, by rw [hn]; simp⟩)
  exact ⟨v, by rw [h1], h, fun h2 => by rw [h1] at h2; cases h2⟩

theorem lens_snoc {L : List Sc} {k : Nat} {s : Sc} (h : L[k]? = some s) : lens (L.take (k + 1)) = lens (L.take k) + s.bn := by
  obtain ⟨l, rfl⟩ := List.getElem?_eq_some_iff.1 h
  unfold lens
  rw [List.take_succ_eq_append_getElem l]
  simp only [List.map_append, List.sum_append, List.map_cons, List.map_nil, List.sum_cons, List.sum_nil, Nat.add_zero]
theorem cells_snoc {L : List Sc} {k : Nat} {s : Sc} (h : L[k]? = some s) : (L.take (k + 1)).flatMap Sc.cells = (L.take k).flatMap Sc.cells ++ s.cells := by
  obtain ⟨l, rfl⟩ := List.getElem?_eq_some_iff.1 h
  rw [List.take_succ_eq_append_getElem l]
  simp only [List.flatMap_append, List.flatMap_cons, List.flatMap_nil, List.append_nil]

theorem cells_get (L : List Sc) : ∀ (i : Nat) (s : Sc), L[i]? = some s → ∀ j, j < 6 → (L.flatMap Sc.cells)[i * 6 + j]? = s.cells[j]? := by
  induction L with
  | nil => intro i s h; simp at h
  | cons x L ih =>
    intro i s h j hj
    rw [List.flatMap_cons]
    cases i with
    | zero =>
      simp only [List.getElem?_cons_zero, Option.some.injEq] at h
      subst h
      rw [Nat.zero_mul, Nat.zero_add, List.getElem?_append_left (by simpa using hj)]
    | succ i =>
      simp only [List.getElem?_cons_succ] at h
      rw [List.getElem?_append_right (by simp; omega)]
      have : (i + 1) * 6 + j - x.cells.length = i * 6 + j := by simp; omega
      rw [this]
      exact ih i s h j hj

theorem rdL_of_owns {w : World} {base n : Nat} {v : Value} {L : List Sc} (hl : L.length = n) (h : w.ownsRow base 35 6 v n (L.flatMap Sc.cells)) (hw : ∀ s ∈ L, s.wf ∧ rdB w.heap.size w s.ba s.bn s.bytes) :
    ∃ a c, v = .slice a n c ∧ rdL w.heap.size w a L := by
  obtain ⟨-, h2⟩ := h
  rcases h2 with ⟨rfl, rfl⟩ | ⟨g, cap, cur, rfl, hbg, hg, hnc, hcm, hcs, htake⟩
  · exact ⟨none, 0, rfl, .inl (List.eq_nil_of_length_eq_zero hl)⟩
  · refine ⟨some ⟨g, 0, none⟩, cap, rfl, .inr ⟨g, 0, rfl, ?_, fun i s hs => ?_⟩⟩
    · rcases Nat.lt_or_ge g w.heap.size with h | h
      · exact h
      · simp [Array.getElem?_eq_none h] at hg
    · have hi : i < n := by
        rcases Nat.lt_or_ge i L.length with h | h
        · omega
        · rw [List.getElem?_eq_none h] at hs; cases hs
      have hc : ∀ j, j < 6 → w.cell? ⟨g, 0 + i * 6 + j, none⟩ = s.cells[j]? := fun j hj => by
        have h1 := cells_get L i s hs j hj
        rw [← htake, List.getElem?_take_of_lt (by omega)] at h1
        rw [(cells_at hg).1, Nat.zero_add, ← h1]
        simp
      have hm := hw s (List.mem_of_getElem? hs)
      exact ⟨hm.1, hc 0 (by omega), hc 1 (by omega), hc 2 (by omega), hc 3 (by omega), hc 4 (by omega), hc 5 (by omega), hm.2⟩

theorem pow29 (x : Nat) (hx : x < 18446744073709551616) : ∃ r : Nat, r = x % 536870912 ∧ bits .and .u64 (x : Int) 536870911 = (r : Int) := ⟨_, rfl, and_low x 29 hx (by decide)⟩
theorem cell_new_list (W : World) (cs : List Value) (t : TypeId) (m j : Nat) : ((W.alloc (.cells cs.toArray t)).drewN m).cell? ((⟨W.heap.size, 0, none⟩ : Addr).add j) = cs[j]? := by
  show (W.alloc (.cells cs.toArray t)).cell? _ = _
  unfold Addr.add
  split
  · rename_i h; subst h; rw [(cells_at (heap_new W _)).1]; simp
  · rw [Nat.zero_add, (cells_at (heap_new W _)).1]; simp
theorem and29 (x : Nat) (hx : x < 18446744073709551616) : bits .and .u64 (x : Int) 536870911 = ((x % 536870912 : Nat) : Int) := and_low x 29 hx (by decide)

set_option maxRecDepth 100000 in
set_option maxHeartbeats 8000000 in
theorem scalars_any (a : Option Addr) (n c : Nat) (L : List Sc) (w : World) (hl : L.length = n) (hn : n ≤ 2147483647) (hbn : ∀ s ∈ L, s.bn ≤ 2147483647) (h : rdL w.heap.size w a L) :
    Calls Tryd.prog 8 #[.slice a n c] w (ScPost L w) := by
  obtain ⟨i0, hi, hz0, hz1, hz2⟩ := info_parts info35
  have HH := Lib.hid h
  have HL := Lib.hid hl
  have HN := Lib.hid hbn
  clear h hl hbn
  go_enter Tryd.func8, Tryd.ntmps8
  go_wp2_with fail
  go_loopw [4, 5, 12] (fun v t i wr => ∃ k : Nat, k ≤ n ∧ i = .int .i64 k ∧ t = .int .i64 (lens (L.take k) : Int) ∧ lens (L.take k) ≤ k * 2147483647 ∧ wr.ownsRow w.heap.size 35 6 v k ((L.take k).flatMap Sc.cells) ∧ Below w.heap.size w wr ∧ ∀ s ∈ L.take k, okS s = true) (fun _ _ i _ => n - (intOf i).toNat)
  case atStart => exact ⟨0, Nat.zero_le _, rfl, rfl, by simp [lens], World.ownsRow_nil _ _ _ _, Below.refl _ _, fun s hs => by simp at hs⟩
  case round =>
    obtain ⟨k, hk, rfl, rfl, hlen, hown, hB, hall⟩ := hrel
    have HO := Lib.hid hown
    have HA := Lib.hid hall
    clear hown hall
    by_cases hlt : k < n
    · obtain ⟨s, hs⟩ : ∃ s, L[k]? = some s := ⟨_, List.getElem?_eq_getElem (by rw [HL.out]; exact hlt)⟩
      rcases HH.out with h0 | ⟨b, o, rfl, hb, hc⟩
      · subst h0; simp at hs
      have hsc := (hc k s hs).below hB (Nat.le_refl _) hb
      have e0 := hsc.c0
      have e1 := hsc.c1
      have e2 := hsc.c2
      have e3 := hsc.c3
      have e4 := hsc.c4
      have e5 := hsc.c5
      have hwf := hsc.wf
      have hua := hwf.a1
      have hub := hwf.b1
      have huu := hwf.u1
      have hbs := HN.out s (List.mem_of_getElem? hs)
      have i0' := hwf.i0
      have i1' := hwf.i1
      have HS := Lib.hid hs
      have HWF := Lib.hid hwf
      clear hsc hs hc hwf
      generalize hlt2 : lens (L.take k) = t at *
      have HT := Lib.hid hlt2
      clear hlt2
      obtain ⟨kd, it, u, fa, fb, ba, bn, bc, bs⟩ := s
      simp only at e0 e1 e2 e3 e4 e5 hbs i0' i1' hua hub huu
      by_cases hr : 0 ≤ kd ∧ kd ≤ 17
      · obtain ⟨hr1, hr2⟩ := hr
        obtain ⟨q, rfl⟩ := Int.eq_ofNat_of_zero_le hr1
        obtain ⟨bt, hbt, hb64, hq1, hq2⟩ := bits_at q (by omega)
        have HBT := Lib.hid hbt
        clear hbt
        go_upto_region 10 with fail
        obtain ⟨BW, z3, p7, p8⟩ := world3 wr #[.int .i64 (q : Int), .int .i64 it, .int .u64 (u : Int), .int .u64 (fa : Int), .int .u64 (fb : Int), .slice ba bn bc] #[.int .i64 (q : Int), .int .i64 it, .int .u64 (u : Int), .int .u64 (fa : Int), .int .u64 (fb : Int), .slice ba bn bc] #[.int .i64 0, .int .i64 1, .int .i64 8, .int .i64 16, .int .i64 32, .int .i64 64, .int .i64 64, .int .i64 8, .int .i64 16, .int .i64 32, .int .i64 64, .int .i64 64, .int .i64 0, .int .i64 0, .int .i64 0, .int .i64 0, .int .i64 0, .int .i64 0] 34 35 3
        have HO2 := Lib.hid (((HO.out.alloc (.cells #[.int .i64 (q : Int), .int .i64 it, .int .u64 (u : Int), .int .u64 (fa : Int), .int .u64 (fb : Int), .slice ba bn bc] 34)).alloc (.cells #[.int .i64 (q : Int), .int .i64 it, .int .u64 (u : Int), .int .u64 (fa : Int), .int .u64 (fb : Int), .slice ba bn bc] 35)).alloc (.cells #[.int .i64 0, .int .i64 1, .int .i64 8, .int .i64 16, .int .i64 32, .int .i64 64, .int .i64 64, .int .i64 8, .int .i64 16, .int .i64 32, .int .i64 64, .int .i64 64, .int .i64 0, .int .i64 0, .int .i64 0, .int .i64 0, .int .i64 0, .int .i64 0] 3))
        generalize (((wr.alloc (.cells #[.int .i64 (q : Int), .int .i64 it, .int .u64 (u : Int), .int .u64 (fa : Int), .int .u64 (fb : Int), .slice ba bn bc] 34)).alloc (.cells #[.int .i64 (q : Int), .int .i64 it, .int .u64 (u : Int), .int .u64 (fa : Int), .int .u64 (fb : Int), .slice ba bn bc] 35)).alloc (.cells #[.int .i64 0, .int .i64 1, .int .i64 8, .int .i64 16, .int .i64 32, .int .i64 64, .int .i64 64, .int .i64 8, .int .i64 16, .int .i64 32, .int .i64 64, .int .i64 64, .int .i64 0, .int .i64 0, .int .i64 0, .int .i64 0, .int .i64 0, .int .i64 0] 3)) = W at *
        have B2 := hB.trans (BW.mono hB.size)
        obtain ⟨d7, -⟩ := cells_at p7
        obtain ⟨d8, -⟩ := cells_at p8
        clear e0 e1 e2 e3 e4 e5 HO BW hB p7 p8 hq1 hq2
        have hq17 : q ≤ 17 := by omega
        clear hr1 hr2
        go_cut [54] (fun v wx => v = .bool (bad1 q it) ∧ ∃ m, wx = W.drewN m)
        case first =>
          by_cases h1 : q = 1
          · subst h1
            by_cases h2 : it = 0
            · subst h2
              go_wp2_with fail
              go_meet
              case rel => exact ⟨rfl, 0, rfl⟩
            · have h2' : (it != 0) = true := by rw [bne_iff_ne]; exact h2
              go_wp2_with fail
              go_meet
              case rel => exact ⟨by unfold bad1; simp [h2'], 0, rfl⟩
          · have h1' : ((q : Int) == 1) = false := by rw [beq_eq_false_iff_ne]; omega
            go_wp2_with fail
            go_meet
            case rel => exact ⟨by unfold bad1; simp [h1'], 0, rfl⟩
        case rest =>
          obtain ⟨rfl, m1, rfl⟩ := hcut
          have HQ : Hid (bt = bitsAt q) := HBT
          cases hb1 : bad1 q it
          case true =>
            go_wp2_with fail
            go_ret2
            exact ScPost.no (below_drewN B2 _) (List.mem_of_getElem? HS.out) (by unfold okS; simp [hb1]) _
          case false =>
          have HB1 := Lib.hid hb1
          clear hb1
          go_upto_region 12 with fail
          go_cut [75] (fun v wx => v = .bool (bad2 q bt it) ∧ ∃ m, wx = W.drewN m)
          case first =>
            by_cases h1 : 1 < q
            · have g1 : decide ((1 : Int) < (q : Int)) = true := by simp; omega
              by_cases h2 : q < 7
              · have g2 : decide ((q : Int) < 7) = true := by simp; omega
                go_quiet (fail)
                go_wp2_with fail
                go_meet
                case rel => exact ⟨by unfold bad2; simp [h1, h2], _, by rw [World.drewN_drewN]⟩
              · have g2 : decide ((q : Int) < 7) = false := by simp; omega
                go_quiet (fail)
                go_wp2_with fail
                go_meet
                case rel => exact ⟨by unfold bad2; simp [h2], _, by rw [World.drewN_drewN]⟩
            · have g1 : decide ((1 : Int) < (q : Int)) = false := by simp; omega
              go_quiet (fail)
              go_wp2_with fail
              go_meet
              case rel => exact ⟨by unfold bad2; simp [h1], _, by rw [World.drewN_drewN]⟩
          case rest =>
          obtain ⟨rfl, m2, rfl⟩ := hcut
          cases hb1 : bad2 q bt it
          case true =>
            go_wp2_with fail
            go_ret2
            exact ScPost.no (below_drewN B2 _) (List.mem_of_getElem? HS.out) (by unfold okS; simp [← HBT.out, hb1]) _
          case false =>
          have HB2 := Lib.hid hb1
          clear hb1
          go_upto_region 14 with fail
          go_cut [96] (fun v wx => v = .bool (bad3 q bt u) ∧ ∃ m, wx = W.drewN m)
          case first =>
            by_cases h1 : 7 ≤ q
            · have g1 : decide ((7 : Int) ≤ (q : Int)) = true := by simp; omega
              by_cases h2 : q < 12
              · have g2 : decide ((q : Int) < 12) = true := by simp; omega
                go_quiet (fail)
                go_wp2_with fail
                go_meet
                case rel => exact ⟨by unfold bad3; simp [h1, h2], _, by rw [World.drewN_drewN]⟩
              · have g2 : decide ((q : Int) < 12) = false := by simp; omega
                go_quiet (fail)
                go_wp2_with fail
                go_meet
                case rel => exact ⟨by unfold bad3; simp [h2], _, by rw [World.drewN_drewN]⟩
            · have g1 : decide ((7 : Int) ≤ (q : Int)) = false := by simp; omega
              go_quiet (fail)
              go_wp2_with fail
              go_meet
              case rel => exact ⟨by unfold bad3; simp [h1], _, by rw [World.drewN_drewN]⟩
          case rest =>
          obtain ⟨rfl, m3, rfl⟩ := hcut
          cases hb1 : bad3 q bt u
          case true =>
            go_wp2_with fail
            go_ret2
            exact ScPost.no (below_drewN B2 _) (List.mem_of_getElem? HS.out) (by unfold okS; simp [← HBT.out, hb1]) _
          case false =>
          have HB3 := Lib.hid hb1
          clear hb1
          go_upto_region 16 with fail
          go_cut [128] (fun v wx => v = .bool (bad4 q fa fb) ∧ ∃ m, wx = W.drewN m)
          case first =>
            rcases (by omega : q = 12 ∨ q = 14 ∨ (q ≠ 12 ∧ q ≠ 14)) with rfl | rfl | ⟨h12, h14⟩
            · obtain ⟨ra, hra, ba1⟩ := pow29 fa hua
              obtain ⟨rb, hrb, bb1⟩ := pow29 fb hub
              have HRA := Lib.hid hra
              have HRB := Lib.hid hrb
              clear hra hrb
              by_cases h0 : ra = 0
              · subst h0
                by_cases h1 : rb = 0
                · subst h1
                  cases hna : narrowB fa
                  all_goals cases hnb : narrowB fb
                  all_goals
                    go_wp2_with (go_at_call 18; refine (narrow_any _ _ (by assumption)).mono ?_; rintro e w2 ⟨rfl, rfl⟩)
                    go_meet
                    case rel => exact ⟨by unfold bad4; simp [← HRA.out, ← HRB.out, hna, hnb], _, rfl⟩
                · have h1' : ((rb : Int) != 0) = true := by rw [bne_iff_ne]; omega
                  go_wp2_with (go_at_call 18; refine (narrow_any _ _ (by assumption)).mono ?_; rintro e w2 ⟨rfl, rfl⟩)
                  go_meet
                  case rel => exact ⟨by unfold bad4; simp [← HRB.out, h1], _, rfl⟩
              · have h0' : ((ra : Int) != 0) = true := by rw [bne_iff_ne]; omega
                go_wp2_with (go_at_call 18; refine (narrow_any _ _ (by assumption)).mono ?_; rintro e w2 ⟨rfl, rfl⟩)
                go_meet
                case rel => exact ⟨by unfold bad4; simp [← HRA.out, h0], _, rfl⟩
            · obtain ⟨ra, hra, ba1⟩ := pow29 fa hua
              obtain ⟨rb, hrb, bb1⟩ := pow29 fb hub
              have HRA := Lib.hid hra
              have HRB := Lib.hid hrb
              clear hra hrb
              by_cases h0 : ra = 0
              · subst h0
                by_cases h1 : rb = 0
                · subst h1
                  cases hna : narrowB fa
                  all_goals cases hnb : narrowB fb
                  all_goals
                    go_wp2_with (go_at_call 18; refine (narrow_any _ _ (by assumption)).mono ?_; rintro e w2 ⟨rfl, rfl⟩)
                    go_meet
                    case rel => exact ⟨by unfold bad4; simp [← HRA.out, ← HRB.out, hna, hnb], _, rfl⟩
                · have h1' : ((rb : Int) != 0) = true := by rw [bne_iff_ne]; omega
                  go_wp2_with (go_at_call 18; refine (narrow_any _ _ (by assumption)).mono ?_; rintro e w2 ⟨rfl, rfl⟩)
                  go_meet
                  case rel => exact ⟨by unfold bad4; simp [← HRB.out, h1], _, rfl⟩
              · have h0' : ((ra : Int) != 0) = true := by rw [bne_iff_ne]; omega
                go_wp2_with (go_at_call 18; refine (narrow_any _ _ (by assumption)).mono ?_; rintro e w2 ⟨rfl, rfl⟩)
                go_meet
                case rel => exact ⟨by unfold bad4; simp [← HRA.out, h0], _, rfl⟩
            · have g1 : ((q : Int) == 12) = false := by rw [beq_eq_false_iff_ne]; omega
              have g2 : ((q : Int) == 14) = false := by rw [beq_eq_false_iff_ne]; omega
              go_wp2_with fail
              go_meet
              case rel => exact ⟨by unfold bad4; simp [h12, h14], _, rfl⟩
          case rest =>
          obtain ⟨rfl, m4, rfl⟩ := hcut
          cases hb1 : bad4 q fa fb
          case true =>
            go_wp2_with fail
            go_ret2
            exact ScPost.no (below_drewN B2 _) (List.mem_of_getElem? HS.out) (by unfold okS; simp [hb1]) _
          case false =>
          have HB4 := Lib.hid hb1
          clear hb1
          go_wp2_with (at_builtin; refine wpList_append_own _ rfl (.tmp 134) (.tmp 136) 24 rfl w.heap.size 35 i0 _ 6 64 Tryd.underlying24 hi hz0 hz1 hz2 rfl (by decide) _ k ((L.take k).flatMap Sc.cells) rfl ?own ⟨W.heap.size, 0, none⟩ 1 1 [.int .i64 (q : Int), .int .i64 it, .int .u64 (u : Int), .int .u64 (fa : Int), .int .u64 (fb : Int), .slice ba bn bc] rfl rfl ?c1 ?c2 ?c3 ?c4 ?c5 ?_)
          case own => exact HO2.out.alloc _
          case c1 => exact fun j u hj => (cell_new_list W _ 35 m4 j).trans hj
          case c2 => intro u hu; simp at hu; rcases hu with rfl | rfl | rfl | rfl | rfl | rfl <;> rfl
          case c3 => unfold maxLen; omega
          case c4 => omega
          case c5 => have := B2.size; show _ ≤ (W.alloc _).heap.size; simp; omega
          intro v' w1 hown' hgrow _
          have hbk : ∀ g, Value.ownBlock _ = some g → w.heap.size ≤ g := fun g hg => (HO2.out.lt g hg).1
          have B5 := (below_drewN (B2.alloc B2.size (.cells #[.int .i64 (q : Int), .int .i64 it, .int .u64 (u : Int), .int .u64 (fa : Int), .int .u64 (fb : Int), .slice ba bn bc] 35)) m4).grown hgrow (by have := B2.size; show _ ≤ (W.alloc _).heap.size; simp; omega) hbk
          have HO5 := Lib.hid hown'
          have hok : okS ⟨(q : Int), it, u, fa, fb, ba, bn, bc, bs⟩ = true := by
            unfold okS
            simp [← HBT.out, HB1.out, HB2.out, HB3.out, HB4.out]
            omega
          have HOK := Lib.hid hok
          clear hown' hgrow hbk hok d7 d8
          go_wp2_with fail
          go_roundw
          case rel =>
            refine ⟨k + 1, by omega, by go_num, ?_, ?_, ?_, B5, ?_⟩
            · rw [lens_snoc HS.out, HT.out]; go_num
            · rw [lens_snoc HS.out, HT.out]; simp only; omega
            · rw [cells_snoc HS.out]; exact HO5.out
            · intro s hs
              obtain ⟨l, e⟩ := List.getElem?_eq_some_iff.1 HS.out
              rw [List.take_succ_eq_append_getElem l, List.mem_append] at hs
              rcases hs with hs | hs
              · exact HA.out s hs
              · rw [List.mem_singleton] at hs; rw [hs, e]; exact HOK.out
          case measure => simp [intOf]; omega
      · have hno : okS ⟨kd, it, u, fa, fb, ba, bn, bc, bs⟩ = false := by
          unfold okS
          by_cases h0 : 0 ≤ kd
          · have : ¬ kd ≤ 17 := fun h => hr ⟨h0, h⟩
            simp [this]
          · simp [h0]
        have HNO := Lib.hid hno
        clear hno
        by_cases h0 : kd < 0
        · go_wp2_with fail
          go_ret2
          exact ScPost.no (hB.trans ((below1 wr _).mono hB.size)) (List.mem_of_getElem? HS.out) HNO.out _
        · have h1 : 17 < kd := by
            rcases (by omega : 17 < kd ∨ kd ≤ 17) with h | h
            · exact h
            · exact absurd ⟨by omega, h⟩ hr
          clear hr
          go_wp2_with fail
          go_ret2
          exact ScPost.no (hB.trans ((below1 wr _).mono hB.size)) (List.mem_of_getElem? HS.out) HNO.out _
    · obtain rfl : k = n := by omega
      have ho := HO.out
      have hal := HA.out
      rw [List.take_of_length_le (by rw [HL.out]; exact Nat.le_refl _)] at ho hal hlen
      obtain ⟨a', c', rfl, hr⟩ := rdL_of_owns HL.out ho (fun s hs => by
        obtain ⟨j, hj⟩ := List.getElem?_of_mem hs
        rcases HH.out with h0 | ⟨b, o, rfl, hb, hc⟩
        · subst h0; simp at hj
        · have hsc := (hc j s hj).below hB (Nat.le_refl _) hb
          exact ⟨hsc.wf, rdB_mono hsc.rd hB.size⟩)
      have et : lens (L.take k) = lens L := by rw [List.take_of_length_le (by rw [HL.out]; exact Nat.le_refl _)]
      rw [et]
      obtain ⟨t, ht⟩ : ∃ t, lens L = t := ⟨_, rfl⟩
      rw [ht] at hlen ⊢
      have HT := Lib.hid ht
      have HR := Lib.hid hr
      have HAL := Lib.hid hal
      have hall : okB L = (decide (k ≤ 1000) && decide (t ≤ 60000) && numsB L) := by
        unfold okB
        rw [List.all_eq_true.2 HAL.out, HL.out, HT.out, Bool.true_and]
      have HALL := Lib.hid hall
      clear ho hal et ht hr HH HO HA HN hall
      have hnum := numbers_any a' k c' L wr HL.out (by omega) HR.out
      have HNUM := Lib.hid hnum
      clear hnum
      by_cases h1 : k ≤ 1000
      · have g1 : decide ((k : Int) ≤ 1000) = true := by simp; omega
        by_cases h2 : t ≤ 60000
        · have g2 : decide ((t : Int) ≤ 60000) = true := by simp; omega
          go_wp2_with (go_at_call 19; refine HNUM.out.mono ?_; rintro e w2 ⟨rfl, hb2⟩)
          go_ret2
          have B5 := hB.trans (hb2.mono hB.size)
          exact ⟨.slice a' k c', by rw [HALL.out]; simp [h1, h2], B5, fun _ => ⟨a', c', by rw [HL.out], (HR.out.below hb2 (Nat.le_refl _)).mono hb2.size⟩⟩
        · have g2 : decide ((t : Int) ≤ 60000) = false := by simp; omega
          go_wp2_with fail
          go_ret2
          exact ⟨.slice a' k c', by rw [HALL.out]; simp [h2], hB, fun h => by rw [HALL.out] at h; simp [h2] at h⟩
      · have g1 : decide ((k : Int) ≤ 1000) = false := by simp; omega
        go_wp2_with fail
        go_ret2
        exact ⟨.slice a' k c', by rw [HALL.out]; simp [h1], hB, fun h => by rw [HALL.out] at h; simp [h1] at h⟩

end Go.Proofs.YtaoonpncnahhgaaDoor
