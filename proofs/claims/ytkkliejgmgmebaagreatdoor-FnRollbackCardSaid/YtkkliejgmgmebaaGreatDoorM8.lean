/-
  impl.call over a MemFiler: WriteAt; all kinds.
-/
import Derived.Test.YtkkliejgmgmebaaGreatDoorM7
namespace Go.Proofs.YtkkliejgmgmebaaGreatDoor
open Go.RowKit

/-- a row of bytes reads, in its own block -/
theorem Row.rdOwn {Q : Nat → Prop} {w : World} {a : Option Addr} {n c : Nat} {bs : List UInt8} (h : Row Q w 5 1 (.slice a n c) n (u8s bs)) : Rd (fun k => (Value.slice a n c).ownBlock = some k) w a n bs := by
  have hl : bs.length = n := by have := h.1; simpa using this
  refine ⟨hl, ?_⟩
  rcases Nat.eq_zero_or_pos n with h0 | h0
  · exact .inl (List.eq_nil_of_length_eq_zero (by omega))
  · obtain ⟨g, cap, e1, -, -, -, hc, -⟩ := h.opened h0
    simp only [Value.slice.injEq] at e1
    obtain ⟨rfl, -, -⟩ := e1
    refine .inr ⟨g, 0, rfl, rfl, fun i x hx => ?_⟩
    have hi : i < n := by have := (List.getElem?_eq_some_iff.1 hx).1; omega
    rw [Nat.zero_add, hc i hi, List.getElem?_map, hx]
    rfl

/-- the write behind the clone -/
theorem write_after (Pr : Nat → Prop) (w W2 w3 : World) (gm gz : Nat) (v : Value) (bs xs : List UInt8) (ac : Option Addr) (dn cc off : Nat) (hin : Inw Pr w) (h : MemIs Pr w gm gz v bs) (hW : Keeps (Old w) w W2) (hs : W2.heap.size = w.heap.size + 2)
    (hrow : Row (Old W2) w3 5 1 (.slice ac dn cc) dn (u8s xs)) (hown : ∀ k, (Value.slice ac dn cc).ownBlock = some k → W2.heap.size ≤ k) (hkC : Keeps (Old W2) W2 w3) (hn : 0 < dn) (hn2 : dn ≤ 1000000) (ho : off ≤ 1000000) (hl : bs.length ≤ 10000000) :
    Calls Tryz.prog 124 #[.pointer (some ⟨gm, 0, none⟩), .slice ac dn cc, .int .i64 (off : Int)] w3 fun e w' => ∃ x y, e = .returned (.tuple #[x, y]) ∧
      (x = .int .i64 (dn : Int) ∧ y = .nilIface ∧ ∃ v', MemIs (fun k => Pr k ∨ k = w.heap.size ∨ k = w.heap.size + 1) w' gm gz v' (wrB bs off xs) ∧ Keeps Pr w w' ∧ w'.heap[w.heap.size + 1]? = W2.heap[w.heap.size + 1]?) := by
  have hm2 : MemIs (fun k => Pr k ∨ w.heap.size ≤ k) w3 gm gz v bs := ((h.widen (Pr' := fun k => Pr k ∨ w.heap.size ≤ k) fun k hk hn hor => hor.elim hn fun e => by omega).kept hW fun k hk _ => hk).kept hkC fun k hk _ => hk
  have hgm := h.lt
  have hz := hm2.zis2
  have hinP : Inw (fun k => ((Pr k ∨ k = w.heap.size ∨ k = w.heap.size + 1) ∨ k = gm) ∨ (Value.slice ac dn cc).ownBlock = some k) w3 := fun k hk => by
    have h1 := hkC.size
    rcases hk with ((h | h | h) | h) | h
    · have := hin k h; omega
    · omega
    · omega
    · omega
    · exact (hrow.own h).1
  have hz' : ZIs (fun k => ((Pr k ∨ k = w.heap.size ∨ k = w.heap.size + 1) ∨ k = gm) ∨ (Value.slice ac dn cc).ownBlock = some k) w3 gz v bs := hz.mono fun k hk => by
    rcases hk with ((h | h | h) | h) | h
    · exact .inl (.inl h)
    · exact .inl (.inr (by omega))
    · exact .inl (.inr (by omega))
    · exact .inr h
    · have := hown k h
      exact .inl (.inr (by omega))
  have hrd : Rd (fun k => ((Pr k ∨ k = w.heap.size ∨ k = w.heap.size + 1) ∨ k = gm) ∨ (Value.slice ac dn cc).ownBlock = some k) w3 ac dn xs := hrow.rdOwn.mono fun k h => .inr h
  obtain ⟨_, _, e1, hdc, -⟩ := hrow.slice
  simp only [Value.slice.injEq, true_and] at e1
  obtain ⟨rfl, rfl⟩ := e1
  refine (mwrite_of w3 gm gz _ _ (fun x y w' => x = .int .i64 (dn : Int) ∧ y = .nilIface ∧ ∃ v', MemIs (fun k => Pr k ∨ k = w.heap.size ∨ k = w.heap.size + 1) w' gm gz v' (wrB bs off xs) ∧ Keeps Pr w w' ∧ w'.heap[w.heap.size + 1]? = W2.heap[w.heap.size + 1]?) hm2.c0 ((zwrite_any _ w3 gz v bs xs _ dn _ off hinP hz' hrd hdc hn hl ho hn2).mono ?_))
  rintro e w' ⟨rfl, v', hz2, hk2⟩
  refine ⟨_, _, rfl, rfl, rfl, v', (hm2.widen (Pr' := fun k => Pr k ∨ k = w.heap.size ∨ k = w.heap.size + 1) fun k _ hn hor => ?_).of_zis (hz2.mono fun k h => .inl (.inl h)) (hk2.block gm (.inl (.inr rfl))), ?_, ?_⟩
  · rcases hor with h | h | h
    · exact hn (.inl h)
    · exact hn (.inr (by omega))
    · exact hn (.inr (by omega))
  · exact ((hW.trans (hkC.mono fun k (h : k < w.heap.size) => by show k < W2.heap.size; omega)).mono hin).trans (hk2.mono fun k h => .inl (.inl (.inl h)))
  · exact (hk2.block (w.heap.size + 1) (.inl (.inl (.inr (.inr rfl))))).trans (hkC.block (w.heap.size + 1) (show w.heap.size + 1 < W2.heap.size by omega))

theorem nil_ahead_w (a : Addr) (w : World) : (nilAhead 280 68 (.pointer (some a)) "WriteAt").run Tryz.prog w = .ok (some false) w := by kernel_rfl
theorem method_w (a : Addr) (w : World) : (method 280 68 (.pointer (some a)) "WriteAt").run Tryz.prog w = .ok (124, .pointer (some a)) w := by kernel_rfl

set_option maxRecDepth 100000 in
set_option maxHeartbeats 4000000 in
theorem call_mem_0 (Pr : Nat → Prop) (w : World) (gm gz : Nat) (v : Value) (bs xs : List UInt8) (off : Nat) (size : Int) (da : Option Addr) (dn dc : Nat) (hin : Inw Pr w) (h : MemIs Pr w gm gz v bs) (hr : Rd Pr w da dn xs) (hn : 0 < dn) (hn2 : dn ≤ 1000000) (ho : off ≤ 1000000) (hl : bs.length ≤ 10000000) :
    Calls Tryz.prog 26 #[.iface 68 (.pointer (some ⟨gm, 0, none⟩)), .agg #[.int .i64 0, .int .i64 (off : Int), .int .i64 size, .slice da dn dc]] w
      (CallPost Pr w gm gz (wrB bs off xs) fun r => resOk bs 0 off size dn r) := by
  have H := Lib.hid h
  have HI := Lib.hid hin
  have HR := Lib.hid hr
  clear h hin hr
  go_enter Tryz.func26, Tryz.ntmps26
  (repeat (first | go_values | go_skip | go_guarded | go_step | go_upon))
  have hW : Keeps (Old w) w (w2B w 0 off size da dn dc) := (Keeps.alloc (fun _ h => h) _).trans (Keeps.alloc (fun k (h : k < w.heap.size) => by simp; omega) _)
  have hs : (w2B w 0 off size da dn dc).heap.size = w.heap.size + 2 := by simp
  have hb0 : (w2B w 0 off size da dn dc).heap[w.heap.size]? = some (.cells #[.int .i64 0, .int .i64 (off : Int), .int .i64 size, .slice da dn dc] 42 (0, 0)) := heap_alloc2_old w _ _
  have hb1 : (w2B w 0 off size da dn dc).heap[w.heap.size + 1]? = some (.cells #[.int .i64 0, .slice none 0 0, .int .i64 0, .int .i64 0] 60 (0, 0)) := heap_alloc2_new w _ _
  change Code.wp Tryz.prog _ _ _ (w2B w 0 off size da dn dc)
  generalize w2B w 0 off size da dn dc = W2 at *
  obtain ⟨y0, -⟩ := cells_at hb0
  have y1 := y0 1
  have y3 := y0 3
  simp only [List.getElem?_toArray, List.getElem?_cons_succ, List.getElem?_cons_zero] at y1 y3
  clear y0
  -- the clone and the write, whenever they come
  have CL := Lib.hid (fun (W : World) (hk : Keeps (Old w) w W) => clone_any (Old W) W da dn dc xs (fun _ h => h) ((HR.out.keeps (hk.mono HI.out)).mono fun k hp => Nat.lt_of_lt_of_le (HI.out k hp) hk.size) (by omega))
  have HW := Lib.hid hW
  have HS := Lib.hid hs
  have HB0 := Lib.hid hb0
  have HB1 := Lib.hid hb1
  clear hW hs hb0 hb1
  have na := nil_ahead_w ⟨gm, 0, none⟩
  have me := method_w ⟨gm, 0, none⟩
  refine wp_blind ?_
  go_region_with (first
    | (go_at_call 16; refine (CL.out _ (HW.out.trans (Keeps.drew _ _))).mono ?_; rintro e w3 ⟨vC, rfl, hrow, -, hown, hkC⟩; obtain ⟨ac, cc, rfl, -⟩ := hrow.slice; have z1 := (hkC.cell (a := ⟨w.heap.size, 1, none⟩) (show w.heap.size < W2.heap.size by have := HS.out; omega)).trans y1; have WA := Lib.hid (write_after Pr w W2 w3 gm gz v bs xs ac dn cc off HI.out H.out HW.out HS.out hrow hown ((Keeps.drew (Old W2) W2).trans hkC) hn hn2 ho hl); clear hrow hown hkC)
    | (go_at_call 124; refine WA.out.mono ?_; rintro e w4 ⟨_, _, rfl, rfl, rfl, v', hm, hk, hbb⟩; obtain ⟨b0, b1⟩ := cells_at (hbb.trans HB1.out); have x0 := b0 0; have x1 := b0 1; have x2 := b0 2; have x3 := b0 3; have f0 := b1 0; have f1 := b1 1; have f2 := b1 2; have f3 := b1 3; simp only [List.getElem?_toArray, List.getElem?_cons_succ, List.getElem?_cons_zero] at x0 x1 x2 x3; have HM4 := Lib.hid hm; have HK4 := Lib.hid hk; have HBB := Lib.hid (hbb.trans HB1.out); clear hm hk hbb b0 b1))
  all_goals
    simp only [onlyNormal]
    (repeat (first | go_values | go_skip | go_guarded | go_step | go_upon))
    refine (kind_nil _).mono ?_
    rintro e w5 ⟨rfl, rfl⟩
    dsimp only
    (repeat (first | go_values | go_skip | go_guarded | go_step | go_upon))
    have q0 := heap_set_same HBB.out 0 (.int .i64 (dn : Int))
    have k0 := (Keeps.setCell (Pr := fun k => k ≠ w.heap.size + 1) (a := ⟨w.heap.size + 1, 0, none⟩) (fun h => h rfl) (.int .i64 (dn : Int)) : Keeps _ w4 _)
    have q1 := heap_set_same q0 3 (.int .i64 0)
    have k1 := k0.trans (Keeps.setCell (Pr := fun k => k ≠ w.heap.size + 1) (a := ⟨w.heap.size + 1, 3, none⟩) (fun h => h rfl) (.int .i64 0))
    have q2 := heap_set_same q1 0 (.int .i64 (dn : Int))
    have k2 := k1.trans (Keeps.setCell (Pr := fun k => k ≠ w.heap.size + 1) (a := ⟨w.heap.size + 1, 0, none⟩) (fun h => h rfl) (.int .i64 (dn : Int)))
    have q3 := heap_set_same q2 1 (.slice none 0 0)
    have k3 := k2.trans (Keeps.setCell (Pr := fun k => k ≠ w.heap.size + 1) (a := ⟨w.heap.size + 1, 1, none⟩) (fun h => h rfl) (.slice none 0 0))
    have q4 := heap_set_same q3 2 (.int .i64 0)
    have k4 := k3.trans (Keeps.setCell (Pr := fun k => k ≠ w.heap.size + 1) (a := ⟨w.heap.size + 1, 2, none⟩) (fun h => h rfl) (.int .i64 0))
    have q5 := heap_set_same q4 3 (.int .i64 0)
    have k5 := k4.trans (Keeps.setCell (Pr := fun k => k ≠ w.heap.size + 1) (a := ⟨w.heap.size + 1, 3, none⟩) (fun h => h rfl) (.int .i64 0))
    exact bodyPost_ret (results_cell_row rfl _ _ (w.heap.size + 1) 60 _ _ _ rfl q5 Tryz.underlying60 rfl (by kernel_rfl)) rfl
      (call_end k5 HI.out HM4.out HK4.out (res_nil _ _ dn 0 0) ⟨fun _ => ⟨rfl, rfl⟩, fun e => absurd e (by decide), fun e => absurd e (by decide), fun e => absurd e (by decide), fun e => absurd e (by decide)⟩)

/-- one call -/
theorem call_mem (Pr : Nat → Prop) (w : World) (gm gz : Nat) (v : Value) (bs xs : List UInt8) (kind off size : Int) (da : Option Addr) (dn dc : Nat) (hin : Inw Pr w) (h : MemIs Pr w gm gz v bs) (hr : Rd Pr w da dn xs) (va vb : Addr) (hV : Vars Pr w va vb) (len : Nat) (hfit : fitsB len kind off size dn = true) (hl : bs.length ≤ 10000000) :
    Calls Tryz.prog 26 #[.iface 68 (.pointer (some ⟨gm, 0, none⟩)), .agg #[.int .i64 kind, .int .i64 off, .int .i64 size, .slice da dn dc]] w
      (CallPost Pr w gm gz (mstep bs kind off size xs) fun r => resOk bs kind off size dn r) := by
  by_cases k0 : kind = 0
  · subst k0
    obtain ⟨h1, h2, h3, h4⟩ := fitsB_0 hfit
    obtain ⟨o, rfl⟩ := Int.eq_ofNat_of_zero_le h1
    exact call_mem_0 Pr w gm gz v bs xs o size da dn dc hin h hr h3 (by omega) (by omega) hl
  by_cases k1 : kind = 1
  · subst k1
    obtain ⟨h1, h2, h3, h4⟩ := fitsB_1 hfit
    obtain ⟨o, rfl⟩ := Int.eq_ofNat_of_zero_le h1
    obtain ⟨n, rfl⟩ := Int.eq_ofNat_of_zero_le (show 0 ≤ size by omega)
    exact call_mem_1 Pr w gm gz v bs o n da dn dc hin h va vb hV (by omega) (by omega)
  by_cases k2 : kind = 2
  · subst k2
    obtain ⟨h1, h2⟩ := fitsB_2 hfit
    obtain ⟨n, rfl⟩ := Int.eq_ofNat_of_zero_le h1
    exact call_mem_2 Pr w gm gz v bs off n da dn dc (by omega) hin h
  by_cases k3 : kind = 3
  · subst k3
    exact call_mem_3 Pr w gm gz v bs off size da dn dc hin h
  have hx := fitsB_x hfit k0 k1 k2 k3
  have e : mstep bs kind off size xs = bs := by unfold mstep; rw [if_neg k0, if_neg k2]
  rw [e]
  have h4 : kind = 4 ∨ kind = 5 ∨ kind = 6 ∨ kind = 7 := by omega
  rcases h4 with rfl | rfl | rfl | rfl
  · exact call_mem_4 Pr w gm gz v bs off size da dn dc hin h
  · exact call_mem_5 Pr w gm gz v bs off size da dn dc hin h
  · exact call_mem_6 Pr w gm gz v bs off size da dn dc hin h va vb hV
  · exact call_mem_7 Pr w gm gz v bs off size da dn dc hin h

end Go.Proofs.YtkkliejgmgmebaaGreatDoor
