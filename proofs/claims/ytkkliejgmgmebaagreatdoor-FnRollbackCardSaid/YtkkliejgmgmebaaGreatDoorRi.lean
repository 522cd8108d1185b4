/-
  RollbackFiler.Truncate, WriteAt, ReadAt.
-/
import Derived.Test.YtkkliejgmgmebaaGreatDoorRh
namespace Go.Proofs.YtkkliejgmgmebaaGreatDoor
open Go.RowKit

theorem nil_ahead_nM (a : Addr) (w : World) : (nilAhead 280 68 (.pointer (some a)) "Name").run Tryz.prog w = .ok (some false) w := by kernel_rfl
theorem method_nM (a : Addr) (w : World) : (method 280 68 (.pointer (some a)) "Name").run Tryz.prog w = .ok (118, .pointer (some a)) w := by kernel_rfl

/-- what a call that isn't let leaves -/
def NotLet (tg : Nat → Nat × Nat) (w : World) (gr gc : Nat) (S : St) (va vb : Addr) (w' : World) : Prop := RbIs 0 0 0 tg w' gr gc S va vb ∧ Keeps (fun j => j < w.heap.size ∧ j ≠ gr) w w'

theorem RbIs.alloc {m r r2 : Int} {tg : Nat → Nat × Nat} {w : World} {gr gc : Nat} {S : St} {va vb : Addr} (h : RbIs m r r2 tg w gr gc S va vb) (o : Obj) : RbIs m r r2 tg (w.alloc o) gr gc S va vb := by
  have hk : Keeps (Old w) w (w.alloc o) := Keeps.alloc (fun _ h => h) o
  exact h.step (h.st.kept (fun j hj _ => hk.block j hj) (fun _ _ _ => rfl)) (fun _ _ => rfl) (hk.mono fun j hj => hj.1) rfl rfl rfl

set_option maxRecDepth 100000 in
theorem rtrunc0 {tg : Nat → Nat × Nat} {w : World} {gr gc : Nat} {S : St} {va vb : Addr} (n : Int) (h : RbIs 0 0 0 tg w gr gc S va vb) (ht : S.t = 0) :
    Calls Tryz.prog 65 #[.pointer (some ⟨gr, 0, none⟩), .int .i64 n] w fun e w' => ∃ p, e = .returned (.iface 109 (.pointer (some p))) ∧ NotLet tg w gr gc S va vb w' := by
  obtain ⟨bp, hr, hbp⟩ := h.roll
  have H := Lib.hid h
  have HR := Lib.hid hr
  have HB := Lib.hid hbp
  have HT := Lib.hid ht
  have na := nil_ahead_nM ⟨S.gm, 0, none⟩
  have me := method_nM ⟨S.gm, 0, none⟩
  clear h hr hbp ht
  go_enter_defers Tryz.func65, Tryz.ntmps65
  (repeat (first | go_values | go_skip | go_guarded | go_step | go_upon))
  refine (wl_any HR.out).mono ?_
  rintro e w1 ⟨rfl, hr1, hk1⟩
  obtain ⟨-, -, c14, -, -, c17, -⟩ := hr1.cells
  rw [HT.out] at c17
  have H1 := Lib.hid (H.out.locked HB.out hr1 hk1)
  have HK1 := Lib.hid hk1
  clear hr1 hk1
  dsimp only
  (repeat (first | go_values | go_skip | go_guarded | go_step | go_upon))
  refine (mname_any _ _).mono ?_
  rintro e w2 ⟨⟨s, rfl, hs⟩, rfl⟩
  dsimp only
  (repeat (first | go_values | go_skip | go_guarded | go_step | go_upon))
  refine leaves_cons (f := 68) (args := #[.pointer (some ⟨gr, 0, none⟩)]) (by simp) (by simp [go_sem]) ?_
  obtain ⟨bp', hr', hb'⟩ := (H1.out.alloc _).roll
  refine (wu_any .returning hr').mono ?_
  rintro e u' w3 ⟨rfl, rfl, hr3, hk3⟩
  exact ⟨_, results_tmp rfl _ _ _, _, rfl, (H1.out.alloc _).locked hb' hr3 hk3, ((HK1.out.mono fun j hj => hj.2).trans (Keeps.alloc (fun j hj => Nat.lt_of_lt_of_le hj.1 HK1.out.size) _)).trans (hk3.mono fun j hj => hj.2)⟩

/-- what a truncation leaves -/
def RTr (tg : Nat → Nat × Nat) (w : World) (gr gc : Nat) (S : St) (n : Nat) (va vb : Addr) (w' : World) : Prop :=
  ∃ tg' S', Lost S.t S S' n ∧ RbIs 0 0 0 tg' w' gr gc S' va vb ∧ (∀ j, j < w.heap.size → tg' j = tg j) ∧ Keeps (OutR tg w gr) w w'

set_option maxRecDepth 100000 in
theorem rtrunc1 {tg : Nat → Nat × Nat} {w : World} {gr gc : Nat} {S : St} {va vb : Addr} (n : Nat) (h : RbIs 0 0 0 tg w gr gc S va vb) (ht : 0 < S.t) (hn : n ≤ 299008) :
    Calls Tryz.prog 65 #[.pointer (some ⟨gr, 0, none⟩), .int .i64 (n : Int)] w fun e w' => e = .returned .nilIface ∧ RTr tg w gr gc S n va vb w' := by
  obtain ⟨bp, hr, hbp⟩ := h.roll
  obtain ⟨k, hk⟩ : ∃ k, S.t = k + 1 := ⟨S.t - 1, by omega⟩
  have hbp' := hbp ht
  have H := Lib.hid h
  have HR := Lib.hid hr
  have HB := Lib.hid hbp
  have HT := Lib.hid ht
  have HKk := Lib.hid hk
  have htt := h.st.tt
  have hk29 : k + 1 ≤ 30 := by omega
  clear h hr hbp ht
  go_enter_defers Tryz.func65, Tryz.ntmps65
  (repeat (first | go_values | go_skip | go_guarded | go_step | go_upon))
  refine (wl_any HR.out).mono ?_
  rintro e w1 ⟨rfl, hr1, hk1⟩
  obtain ⟨c12, -, -, -, -, c17, -⟩ := hr1.cells
  rw [hbp', hk] at c12
  have c12' : w1.cell? ⟨gr, 12, none⟩ = some (.pointer (some ⟨(S.L (k + 1)).b, 0, none⟩)) := c12
  have h1 := H.out.locked HB.out hr1 hk1
  have BT := Lib.hid (btrunc tg w1 S k n h1.st (by omega) hn)
  have H1 := Lib.hid h1
  have HK1 := Lib.hid hk1
  have hz : ¬ (S.t : Int) = 0 := by omega
  clear hr1 hk1 h1 c12 hk hbp'
  generalize (S.t : Int) = z at *
  dsimp only
  (repeat (first | go_values | go_skip | go_guarded | go_step | go_upon))
  refine BT.out.mono ?_
  rintro e w2 ⟨rfl, tg', S', hl, htg, hst, hk2⟩
  have h2 : RbIs 1 (-1073741824) 0 tg' w2 gr gc S' va vb := H1.out.step hst htg (hk2.mono fun j hj => ⟨hj.1, by omega⟩) hl.upd.gm hl.upd.t (by
    rw [HKk.out]
    show (⟨(S'.L (k + 1)).b, 0, none⟩ : Addr) = ⟨(S.L (k + 1)).b, 0, none⟩
    rw [hl.upd.b])
  have H2 := Lib.hid h2
  have HL := Lib.hid hl
  have HTG := Lib.hid htg
  have HK2 := Lib.hid hk2
  clear h2 hl htg hst hk2 BT
  dsimp only
  (repeat (first | go_values | go_skip | go_guarded | go_step | go_upon))
  refine leaves_cons (f := 68) (args := #[.pointer (some ⟨gr, 0, none⟩)]) (by simp) (by simp [go_sem]) ?_
  obtain ⟨bp', hr', hb'⟩ := H2.out.roll
  refine (wu_any .returning hr').mono ?_
  rintro e u' w3 ⟨rfl, rfl, hr3, hk3⟩
  have hs1 := HK1.out.size
  exact ⟨_, results_tmp rfl _ _ _, rfl, tg', S', by rw [HKk.out]; exact HL.out, H2.out.locked hb' hr3 hk3, fun j hj => HTG.out j (by omega), ((HK1.out.mono fun j hj => hj.2.2).trans (HK2.out.mono fun j hj => ⟨by omega, by omega⟩)).trans (hk3.mono fun j hj => hj.2.2)⟩

set_option maxRecDepth 100000 in
theorem rwrite0 {tg : Nat → Nat × Nat} {w : World} {gr gc : Nat} {S : St} {va vb : Addr} (a : Option Addr) (n c : Nat) (o : Int) (h : RbIs 0 0 0 tg w gr gc S va vb) (ht : S.t = 0) :
    Calls Tryz.prog 66 #[.pointer (some ⟨gr, 0, none⟩), .slice a n c, .int .i64 o] w fun e w' => ∃ p, e = .returned (.tuple #[.int .i64 0, .iface 109 (.pointer (some p))]) ∧ NotLet tg w gr gc S va vb w' := by
  obtain ⟨bp, hr, hbp⟩ := h.roll
  have H := Lib.hid h
  have HR := Lib.hid hr
  have HB := Lib.hid hbp
  have HT := Lib.hid ht
  have na := nil_ahead_nM ⟨S.gm, 0, none⟩
  have me := method_nM ⟨S.gm, 0, none⟩
  clear h hr hbp ht
  go_enter_defers Tryz.func66, Tryz.ntmps66
  (repeat (first | go_values | go_skip | go_guarded | go_step | go_upon))
  refine (wl_any HR.out).mono ?_
  rintro e w1 ⟨rfl, hr1, hk1⟩
  obtain ⟨-, -, c14, -, -, c17, -⟩ := hr1.cells
  rw [HT.out] at c17
  have H1 := Lib.hid (H.out.locked HB.out hr1 hk1)
  have HK1 := Lib.hid hk1
  clear hr1 hk1
  dsimp only
  (repeat (first | go_values | go_skip | go_guarded | go_step | go_upon))
  refine (mname_any _ _).mono ?_
  rintro e w2 ⟨⟨s, rfl, hs⟩, rfl⟩
  dsimp only
  (repeat (first | go_values | go_skip | go_guarded | go_step | go_upon))
  refine leaves_cons (f := 68) (args := #[.pointer (some ⟨gr, 0, none⟩)]) (by simp) (by simp [go_sem]) ?_
  obtain ⟨bp', hr', hb'⟩ := (H1.out.alloc _).roll
  refine (wu_any .returning hr').mono ?_
  rintro e u' w3 ⟨rfl, rfl, hr3, hk3⟩
  exact ⟨_, results_tmp2 rfl _ _ _, _, rfl, (H1.out.alloc _).locked hb' hr3 hk3, ((HK1.out.mono fun j hj => hj.2).trans (Keeps.alloc (fun j hj => Nat.lt_of_lt_of_le hj.1 HK1.out.size) _)).trans (hk3.mono fun j hj => hj.2)⟩

/-- what a writing leaves -/
def RWr (tg : Nat → Nat × Nat) (w : World) (gr gc : Nat) (S : St) (off : Nat) (xs : List UInt8) (va vb : Addr) (w' : World) : Prop :=
  ∃ tg' S', Upd S.t S S' ∧ (S'.L S.t).size = max (S.L S.t).size (off + xs.length) ∧ (∀ i, S'.raw S.t i = if off ≤ i ∧ i < off + xs.length then xs.getD (i - off) 0 else S.raw S.t i) ∧
    (∀ p, S'.dirty S.t p = true ↔ (S.dirty S.t p = true ∨ ∃ i, off ≤ i ∧ i < off + xs.length ∧ i / 4096 = p)) ∧ RbIs 0 0 0 tg' w' gr gc S' va vb ∧ (∀ j, j < w.heap.size → tg' j = tg j) ∧ Keeps (OutR tg w gr) w w'

set_option maxRecDepth 100000 in
theorem rwrite1 {tg : Nat → Nat × Nat} {w : World} {gr gc : Nat} {S : St} {va vb : Addr} (a : Option Addr) (n c off : Nat) (xs : List UInt8) (h : RbIs 0 0 0 tg w gr gc S va vb) (ht : 0 < S.t) (hr0 : Rd (OutR tg w gr) w a n xs) (hnc : n ≤ c) (hn : n ≤ 1000000) (ho : off + n ≤ 299008) :
    Calls Tryz.prog 66 #[.pointer (some ⟨gr, 0, none⟩), .slice a n c, .int .i64 (off : Int)] w fun e w' => e = .returned (.tuple #[.int .i64 (n : Int), .nilIface]) ∧ RWr tg w gr gc S off xs va vb w' := by
  obtain ⟨bp, hr, hbp⟩ := h.roll
  obtain ⟨k, hk⟩ : ∃ k, S.t = k + 1 := ⟨S.t - 1, by omega⟩
  have hbp' := hbp ht
  have H := Lib.hid h
  have HR := Lib.hid hr
  have HB := Lib.hid hbp
  have HT := Lib.hid ht
  have HKk := Lib.hid hk
  have HRD := Lib.hid hr0
  have htt := h.st.tt
  have hk29 : k + 1 ≤ 30 := by omega
  clear h hr hbp ht hr0
  go_enter_defers Tryz.func66, Tryz.ntmps66
  (repeat (first | go_values | go_skip | go_guarded | go_step | go_upon))
  refine (wl_any HR.out).mono ?_
  rintro e w1 ⟨rfl, hr1, hk1⟩
  obtain ⟨c12, -, -, -, -, c17, -⟩ := hr1.cells
  rw [hbp', hk] at c12
  have c12' : w1.cell? ⟨gr, 12, none⟩ = some (.pointer (some ⟨(S.L (k + 1)).b, 0, none⟩)) := c12
  have h1 := H.out.locked HB.out hr1 hk1
  have hrd1 : Rd (fun j => j < w1.heap.size ∧ k + 1 < (tg j).1) w1 a n xs := (HRD.out.keeps (hk1.mono fun j hj => hj.2.2)).mono fun j hj => ⟨Nat.lt_of_lt_of_le hj.1 hk1.size, by have := hj.2.1; omega⟩
  have BW := Lib.hid (bwrite tg w1 S k n c off a xs va vb h1.st (by omega) h1.vars hrd1 hnc hn ho)
  have H1 := Lib.hid h1
  have HK1 := Lib.hid hk1
  have hz : ¬ (S.t : Int) = 0 := by omega
  clear hr1 hk1 h1 c12 hk hbp' hrd1
  generalize (S.t : Int) = z at *
  dsimp only
  (repeat (first | go_values | go_skip | go_guarded | go_step | go_upon))
  refine BW.out.mono ?_
  rintro e w2 ⟨rfl, tg', S', hW, hsz⟩
  have h2 : RbIs 1 (-1073741824) 0 tg' w2 gr gc S' va vb := H1.out.step hW.st hW.tags (hW.kp.mono fun j hj => ⟨hj.1, by omega⟩) hW.upd.gm hW.upd.t (by
    rw [HKk.out]
    show (⟨(S'.L (k + 1)).b, 0, none⟩ : Addr) = ⟨(S.L (k + 1)).b, 0, none⟩
    rw [hW.upd.b])
  have H2 := Lib.hid h2
  have HW := Lib.hid hW
  have HSZ := Lib.hid hsz
  clear h2 hW hsz BW
  dsimp only
  (repeat (first | go_values | go_skip | go_guarded | go_step | go_upon))
  refine leaves_cons (f := 68) (args := #[.pointer (some ⟨gr, 0, none⟩)]) (by simp) (by simp [go_sem]) ?_
  obtain ⟨bp', hr', hb'⟩ := H2.out.roll
  refine (wu_any .returning hr').mono ?_
  rintro e u' w3 ⟨rfl, rfl, hr3, hk3⟩
  have hs1 := HK1.out.size
  have hkk := HKk.out
  refine ⟨_, results_tmp2 rfl _ _ _, rfl, tg', S', by rw [hkk]; exact HW.out.upd, by rw [hkk]; exact HSZ.out, by rw [hkk]; exact HW.out.raw, by rw [hkk]; exact HW.out.dirty, H2.out.locked hb' hr3 hk3, fun j hj => HW.out.tags j (by omega), ((HK1.out.mono fun j hj => hj.2.2).trans (HW.out.kp.mono fun j hj => ⟨by omega, by omega⟩)).trans (hk3.mono fun j hj => hj.2.2)⟩

end Go.Proofs.YtkkliejgmgmebaaGreatDoor

namespace Go.Proofs.YtkkliejgmgmebaaGreatDoor
open Go.RowKit

/-- what a reading leaves -/
def RRd (tg : Nat → Nat × Nat) (w : World) (gr gc gb n off : Nat) (S : St) (xs : List UInt8) (va vb : Addr) (e : Ending) (w' : World) : Prop :=
  ∃ tg' S' d er, e = .returned (.tuple #[.int .i64 ((d : Nat) : Int), er]) ∧ d = min (S.size S.t - off) n ∧ (er = .nilIface ∨ er = .iface 115 (.pointer (some va))) ∧ Loads S.t S S' ∧ RbIs 0 0 0 tg' w' gr gc S' va vb ∧ (∀ j, j < w.heap.size → tg' j = tg j) ∧
    Row NoP w' 5 1 (.slice (some ⟨gb, 0, none⟩) n n) n (u8s (splice xs 0 (S.rd S.t off d))) ∧ Keeps (fun j => OutR tg w gr j ∧ j ≠ gb) w w'

theorem row_kept {w w' : World} {gb n : Nat} {xs : List Value} (h : Row NoP w 5 1 (.slice (some ⟨gb, 0, none⟩) n n) n xs) (hb : w'.heap[gb]? = w.heap[gb]?) : Row NoP w' 5 1 (.slice (some ⟨gb, 0, none⟩) n n) n xs :=
  h.kept fun k hk => by
    simp only [Value.ownBlock, Option.some.injEq] at hk
    subst hk
    exact hb

/-- the end of a reading: the two locks are open again -/
theorem read_end {tg tg' : Nat → Nat × Nat} {w w2 w5 : World} {gr gc gb n off : Nat} {S S' : St} {xs : List UInt8} {va vb : Addr} {d : Nat} {er : Value} {e : Ending} (he : e = .returned (.tuple #[.int .i64 ((d : Nat) : Int), er])) (hd : d = min (S.size S.t - off) n) (her : er = .nilIface ∨ er = .iface 115 (.pointer (some va)))
    (hL : Loads S.t S S') (ht : ∀ x, x < w.heap.size → tg' x = tg x) (hrow : Row NoP w2 5 1 (.slice (some ⟨gb, 0, none⟩) n n) n (u8s (splice xs 0 (S.rd S.t off d)))) (hk : Keeps (fun j => OutR tg w gr j ∧ j ≠ gb) w w2) (hgb : gb ≠ gr)
    (h5 : RbIs 0 0 0 tg' w5 gr gc S' va vb) (k5 : Keeps (fun k => k ≠ gr) w2 w5) : RRd tg w gr gc gb n off S xs va vb e w5 :=
  ⟨tg', S', d, er, he, hd, her, hL, h5, ht, row_kept hrow (k5.block gb hgb), hk.trans (k5.mono fun _ hj => hj.1.2.2)⟩

set_option maxRecDepth 100000 in
theorem rread {tg : Nat → Nat × Nat} {w : World} {gr gc gb n off : Nat} {S : St} {xs : List UInt8} {va vb : Addr} (h : RbIs 0 0 0 tg w gr gc S va vb) (hgb : 100 ≤ (tg gb).1) (hgb2 : (tg gb).1 < 900) (hrow : Row NoP w 5 1 (.slice (some ⟨gb, 0, none⟩) n n) n (u8s xs)) (hn : 0 < n) (hn2 : n ≤ 65536) (ho : off ≤ 1000000) :
    Calls Tryz.prog 62 #[.pointer (some ⟨gr, 0, none⟩), .slice (some ⟨gb, 0, none⟩) n n, .int .i64 (off : Int)] w (RRd tg w gr gc gb n off S xs va vb) := by
  obtain ⟨bp, hr, hbp⟩ := h.roll
  have hne : gb ≠ gr := fun e => by subst e; have := h.tr; omega
  have H := Lib.hid h
  have HR := Lib.hid hr
  have HB := Lib.hid hbp
  have HROW := Lib.hid hrow
  have na := nil_ahead_rM ⟨S.gm, 0, none⟩
  have me := method_rM ⟨S.gm, 0, none⟩
  clear h hr hbp hrow
  go_enter_defers Tryz.func62, Tryz.ntmps62
  (repeat (first | go_values | go_skip | go_guarded | go_step | go_upon))
  refine (rl2_any HR.out).mono ?_
  rintro e w1 ⟨rfl, hr1, hk1⟩
  obtain ⟨-, -, -, -, -, -, c19, -⟩ := hr1.cells
  have HR1 := Lib.hid hr1
  have HK1 := Lib.hid hk1
  clear hr1 hk1
  dsimp only
  (repeat (first | go_values | go_skip | go_guarded | go_step | go_upon))
  refine (rl_any HR1.out).mono ?_
  rintro e w2 ⟨rfl, hr2, hk2⟩
  have h2 := H.out.locked HB.out hr2 (HK1.out.trans hk2)
  have hk12 := HK1.out.trans hk2
  obtain ⟨c12, -, c14, -, -, c17, -⟩ := hr2.cells
  have hs := hk12.size
  have hrow2 := row_kept HROW.out (hk12.block gb hne)
  have hrd := rd_any S.t tg w2 S gb n off xs va vb h2.st (Nat.le_refl _) hgb (by omega) h2.vars hrow2 hn hn2 ho
  have fin : ∀ (tg' : Nat → Nat × Nat) (w3 : World) (S' : St), Loads S.t S S' → (∀ j, j < w2.heap.size → tg' j = tg j) → StIs tg' w3 S' → Keeps (Out tg w2 S.t gb) w2 w3 → RbIs 0 1 1 tg' w3 gr gc S' va vb ∧ (∀ j, j < w.heap.size → tg' j = tg j) ∧ Keeps (fun j => OutR tg w gr j ∧ j ≠ gb) w w3 := by
    intro tg' w3 S' hL ht hst hk
    have htt := h2.st.tt
    refine ⟨h2.step hst ht (hk.mono fun j hj => ⟨hj.1, by omega, fun e => by subst e; omega⟩) hL.gm hL.t ?_, fun j hj => ht j (by omega), ?_⟩
    · cases hh : S.t with
      | zero => show (⟨S'.gm, 0, none⟩ : Addr) = _; rw [hL.gm]; rfl
      | succ k => show (⟨(S'.L (k + 1)).b, 0, none⟩ : Addr) = _; rw [hL.b]; rfl
    · exact (hk12.mono fun j hj => hj.1.2.2).trans (hk.mono fun j hj => ⟨by have := hj.1.1; omega, by have := hj.1.2.1; omega, hj.2⟩)
  have FIN := Lib.hid fin
  have HRD := Lib.hid hrd
  clear h2 hr2 hk2 hk12 hrow2 hrd fin HR1 HK1 HROW
  dsimp only
  by_cases h0 : S.t = 0
  · have RD := Lib.hid HRD.out
    rw [h0, show ((0 : Nat) : Int) = 0 from rfl] at c17
    have RD0 := RD.out
    rw [show rdFn S.t = 120 by rw [h0]; rfl, show S.ptr S.t = ⟨S.gm, 0, none⟩ by rw [h0]; rfl] at RD0
    have RDX := Lib.hid RD0
    clear RD RD0 HRD h0
    (repeat (first | go_values | go_skip | go_guarded | go_step | go_upon))
    refine RDX.out.mono ?_
    rintro e w3 ⟨tg', S', d, er, rfl, hd, her, hL, ht, hst, hrw, hk⟩
    obtain ⟨h3, ht3, hk3⟩ := FIN.out tg' w3 S' hL ht hst hk
    have H3 := Lib.hid h3
    have HK3 := Lib.hid hk3
    have HRW := Lib.hid hrw
    have HL := Lib.hid hL
    have HT := Lib.hid ht3
    have HD := Lib.hid hd
    have HER := Lib.hid her
    clear FIN RDX hL ht hst hrw hk h3 ht3 hk3 hd her
    dsimp only
    (repeat (first | go_values | go_skip | go_guarded | go_step | go_upon))
    refine leaves_cons (f := 76) (args := #[.pointer (some ⟨gr, 0, none⟩)]) (by simp) (by simp [go_sem]) ?_
    obtain ⟨bp', hr', hb'⟩ := H3.out.roll
    refine (ru_any .returning hr').mono ?_
    rintro e u' w4 ⟨rfl, rfl, hr4, hk4⟩
    refine leaves_cons (f := 76) (args := #[.pointer (some ⟨gr, 6, none⟩)]) (by simp [settle]) (by simp [go_sem]) ?_
    refine (ru2_any .returning hr4).mono ?_
    rintro e u' w5 ⟨rfl, rfl, hr5, hk5⟩
    exact ⟨_, results_tmp2 rfl _ _ _, read_end rfl HD.out HER.out HL.out HT.out HRW.out HK3.out hne (H3.out.locked hb' hr5 (hk4.trans hk5)) (hk4.trans hk5)⟩
  · obtain ⟨k, hk⟩ : ∃ k, S.t = k + 1 := ⟨S.t - 1, by omega⟩
    have RD0 := HRD.out
    rw [show rdFn S.t = 78 by rw [hk]; rfl, show S.ptr S.t = ⟨(S.L (k + 1)).b, 0, none⟩ by rw [hk]; rfl] at RD0
    have RDX := Lib.hid RD0
    rw [HB.out (by omega), show S.ptr S.t = ⟨(S.L (k + 1)).b, 0, none⟩ by rw [hk]; rfl] at c12
    have hz : ¬ (S.t : Int) = 0 := by omega
    clear RD0 HRD h0 hk
    (repeat (first | go_values | go_skip | go_guarded | go_step | go_upon))
    refine RDX.out.mono ?_
    rintro e w3 ⟨tg', S', d, er, rfl, hd, her, hL, ht, hst, hrw, hk⟩
    obtain ⟨h3, ht3, hk3⟩ := FIN.out tg' w3 S' hL ht hst hk
    have H3 := Lib.hid h3
    have HK3 := Lib.hid hk3
    have HRW := Lib.hid hrw
    have HL := Lib.hid hL
    have HT := Lib.hid ht3
    have HD := Lib.hid hd
    have HER := Lib.hid her
    clear FIN RDX hL ht hst hrw hk h3 ht3 hk3 hd her
    dsimp only
    (repeat (first | go_values | go_skip | go_guarded | go_step | go_upon))
    refine leaves_cons (f := 76) (args := #[.pointer (some ⟨gr, 0, none⟩)]) (by simp) (by simp [go_sem]) ?_
    obtain ⟨bp', hr', hb'⟩ := H3.out.roll
    refine (ru_any .returning hr').mono ?_
    rintro e u' w4 ⟨rfl, rfl, hr4, hk4⟩
    refine leaves_cons (f := 76) (args := #[.pointer (some ⟨gr, 6, none⟩)]) (by simp [settle]) (by simp [go_sem]) ?_
    refine (ru2_any .returning hr4).mono ?_
    rintro e u' w5 ⟨rfl, rfl, hr5, hk5⟩
    exact ⟨_, results_tmp2 rfl _ _ _, read_end rfl HD.out HER.out HL.out HT.out HRW.out HK3.out hne (H3.out.locked hb' hr5 (hk4.trans hk5)) (hk4.trans hk5)⟩

end Go.Proofs.YtkkliejgmgmebaaGreatDoor
