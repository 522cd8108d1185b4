/-
  laws.nested.
-/
import Derived.Test.YtkkliejgmgmebaaGreatDoorT1
namespace Go.Proofs.YtkkliejgmgmebaaGreatDoor
open Go.RowKit

/-- the reference at its start -/
abbrev nsNew (bs : List UInt8) : Ns := ⟨[Fl.new bs], false, bs.length⟩

/-- what laws.nested leaves -/
def NdPost (w : World) (bs : List UInt8) (L : List Op) (e : Ending) (w' : World) : Prop :=
  ∃ gn b, e = .returned (.tuple #[.pointer (some ⟨gn, 0, none⟩), .bool b]) ∧ Keeps (Old w) w w' ∧
    (b = true → L.length ≤ 200 ∧ bs.length ≤ 131072 ∧ fitsR L ∧ NOk (nseq (nsNew bs) L) ∧ (nseq (nsNew bs) L).opn = false ∧ ∃ gs cap X, NIs (Old w) w' gn gs cap X (nseq (nsNew bs) L).opn (nseq (nsNew bs) L).most ∧ X.map FV.F = (nseq (nsNew bs) L).Fs)

theorem NOk.new (bs : List UInt8) (h : bs.length ≤ 262144) : NOk (nsNew bs) := ⟨h, fun F hF => by
  have h5 : F = Fl.new bs := by simpa using hF
  subst h5
  exact h⟩

theorem old_mono2 {w w' : World} (h : Keeps (Old w) w w') : ∀ k, Old w k → Old w' k := fun _ hk => Nat.lt_of_lt_of_le hk h.size

set_option maxRecDepth 100000 in
set_option maxHeartbeats 8000000 in
theorem nested_any (w : World) (bs : List UInt8) (L : List Op) (sa : Option Addr) (sn sc : Nat) (a : Option Addr) (n c : Nat)
    (hs : Rd (Old w) w sa sn bs) (hsc : sn ≤ sc) (hsn : sn ≤ 2147483647) (hL : L.length = n) (hnc : n ≤ c) (hcb : c ≤ 9223372036854775807) (hrd : rdO (Old w) w a L) :
    Calls Tryz.prog 5 #[.slice sa sn sc, .slice a n c] w (NdPost w bs L) := by
  have NN := Lib.hid (newNested_any w sn sc sa bs hs hsc hsn)
  have HS := Lib.hid hs
  have HRD := Lib.hid hrd
  have HLN := Lib.hid hL
  have hnb : n ≤ 9223372036854775807 := by omega
  clear hs hrd hL
  go_enter Tryz.func5, Tryz.ntmps5
  (repeat (first | go_values | go_skip | go_guarded | go_step | go_upon))
  refine NN.out.mono ?_
  rintro e w1 ⟨gn, gs, vd, vk, vw, rfl, hN, hk1⟩
  have HN := Lib.hid hN
  have HK1 := Lib.hid hk1
  clear hN hk1 NN
  dsimp only
  by_cases h2 : 200 < n
  · (repeat (first | go_values | go_skip | go_guarded | go_step | go_upon))
    go_ret2
    exact ⟨gn, false, rfl, HK1.out, fun h => (by cases h)⟩
  have h2' : n ≤ 200 := by omega
  by_cases h3 : 131072 < sn
  · (repeat (first | go_values | go_skip | go_guarded | go_step | go_upon))
    go_ret2
    exact ⟨gn, false, rfl, HK1.out, fun h => (by cases h)⟩
  have h3' : sn ≤ 131072 := by omega
  clear h2 h3
  (repeat (first | go_values | go_skip | go_guarded | go_step | go_upon))
  refine (lcalls_any (Old w) w1 a n c L (old_mono2 HK1.out) HLN.out (by omega) hnc (HRD.out.keeps HK1.out)).mono ?_
  rintro e w2 ⟨ao, co, rfl, hco, hro, hk2⟩
  have hin2 : Inw (Since (Old w) w1 w2) w2 := fun k hk => hk.elim (fun h => Nat.lt_of_lt_of_le h (Nat.le_trans HK1.out.size hk2.size)) fun h => h.2
  have hN2 : NIs (Since (Old w) w1 w2) w2 gn gs 1 [⟨vd, vk, vw, Fl.new bs⟩] (nsNew bs).opn (nsNew bs).most := by
    show NIs _ _ _ _ _ _ false bs.length
    rw [HS.out.1]
    exact (HN.out.widen (Pr' := Since (Old w) w1 w2) fun k hk hn hor => hor.elim hn fun h => by omega).keeps hk2 fun k hk _ => hk
  have LP := Lib.hid (fun Q0 A hA ho hx => nest_loop Q0 (Since (Old w) w1 w2) w2 gn gs 1 _ (nsNew bs) L ao n co A hin2 HLN.out (by omega) hco hro hN2 rfl (NOk.new bs (by rw [HS.out.1]; omega)) rfl hA ho hx)
  have HK2 := Lib.hid (HK1.out.trans (hk2.mono (old_mono2 HK1.out)))
  clear hro hk2 hin2 hN2 HN
  dsimp only
  (repeat (first | go_values | go_skip | go_guarded | go_step | go_upon))
  refine LP.out _ _ ⟨rfl, rfl, rfl, rfl, rfl, rfl⟩ ?_ ?_
  · intro a' w4 hd4 hs4 hs5 hk4
    obtain ⟨F4, df4⟩ := a'
    obtain rfl : df4 = [] := hd4
    have HK4 := Lib.hid (HK2.out.trans (hk4.mono fun k h => .inl h))
    have hs4' : F4.getD 4 undef = .pointer (some ⟨gn, 0, none⟩) := hs4
    have hs5' : F4.getD 5 undef = .bool false := hs5
    clear hk4 hs4 hs5
    go_ret2
    exact ⟨gn, false, by rw [← hs4', ← hs5'], HK4.out, fun h => (by cases h)⟩
  intro a' w4 gs4 cap4 X4 ha4 hN4 hX4 hfr hok4 hk4
  obtain ⟨u, rfl⟩ := frmT ha4
  have HN4 := Lib.hid hN4
  have HX4 := Lib.hid hX4
  have HFR := Lib.hid hfr
  have HOK4 := Lib.hid hok4
  have HK4 := Lib.hid (HK2.out.trans (hk4.mono fun k h => .inl h))
  have c1 := hN4.cell0.2.1
  obtain ⟨ob, hob⟩ : ∃ ob, (nseq (nsNew bs) L).opn = ob := ⟨_, rfl⟩
  rw [hob] at c1
  have HOB := Lib.hid hob
  clear ha4 hN4 hX4 hfr hok4 hk4 LP hob
  simp only [Exit.inBlock, ↓reduceIte]
  (repeat (first | go_values | go_skip | go_guarded | go_step | go_upon))
  go_quiet (fail)
  (repeat (first | go_values | go_skip | go_guarded | go_step | go_upon))
  go_ret2
  refine ⟨gn, !ob, rfl, HK4.out.trans ⟨rfl, rfl, rfl, Nat.le_refl _, fun _ _ => rfl⟩, fun hb => ⟨by rw [HLN.out]; exact h2', by rw [HS.out.1]; exact h3', HFR.out, HOK4.out, by rw [HOB.out]; simpa using hb, gs4, cap4, X4, ?_, HX4.out⟩⟩
  exact (HN4.out.widen (Pr' := Old w) fun k _ hn hk => hn (.inl hk)).kept fun _ _ _ => rfl

end Go.Proofs.YtkkliejgmgmebaaGreatDoor
