/-
  The walks of the package's collate functions on numbers.
-/
import Derived.Test.YtaoonpncnahhgaaDoorWa
import Derived.Test.YtaoonpncnahhgaaDoorOrd
import Derived.Lib.Bytealg
namespace Go.Proofs.YtaoonpncnahhgaaDoor
open Go.RowKit

theorem cint_any (x y : Int) (w : World) : Calls Tryd.prog 43 #[.int .i64 x, .int .i64 y] w fun e w' => e = .returned (.int .i64 (cmpI x y)) ∧ w' = w := by
  unfold cmpI
  by_cases h1 : x < y
  · rw [if_pos h1]
    go_enter Tryd.func43, Tryd.ntmps43
    go_wp2_with fail
    go_ret
    exact ⟨rfl, rfl⟩
  · rw [if_neg h1]
    by_cases h2 : x = y
    · subst h2
      rw [if_neg h1]
      go_enter Tryd.func43, Tryd.ntmps43
      go_wp2_with fail
      go_ret
      exact ⟨rfl, rfl⟩
    · have h3 : (x == y) = false := by rw [beq_eq_false_iff_ne]; exact h2
      rw [if_pos (by omega)]
      go_enter Tryd.func43, Tryd.ntmps43
      go_wp2_with fail
      go_ret
      exact ⟨rfl, rfl⟩

theorem cuint_any (x y : Int) (w : World) : Calls Tryd.prog 48 #[.int .u64 x, .int .u64 y] w fun e w' => e = .returned (.int .i64 (cmpI x y)) ∧ w' = w := by
  unfold cmpI
  by_cases h1 : x < y
  · rw [if_pos h1]
    go_enter Tryd.func48, Tryd.ntmps48
    go_wp2_with fail
    go_ret
    exact ⟨rfl, rfl⟩
  · rw [if_neg h1]
    by_cases h2 : x = y
    · subst h2
      rw [if_neg h1]
      go_enter Tryd.func48, Tryd.ntmps48
      go_wp2_with fail
      go_ret
      exact ⟨rfl, rfl⟩
    · have h3 : (x == y) = false := by rw [beq_eq_false_iff_ne]; exact h2
      rw [if_pos (by omega)]
      go_enter Tryd.func48, Tryd.ntmps48
      go_wp2_with fail
      go_ret
      exact ⟨rfl, rfl⟩

theorem cintuint_any (x : Int) (y : Nat) (w : World) (hx : x ≤ 9223372036854775807) (hy : y < 18446744073709551616) :
    Calls Tryd.prog 44 #[.int .i64 x, .int .u64 (y : Int)] w fun e w' => e = .returned (.int .i64 (cmpI x y)) ∧ w' = w := by
  by_cases h : y ≤ 9223372036854775807
  · go_enter Tryd.func44, Tryd.ntmps44
    go_wp2_with (go_at_call 43; refine (cint_any x y _).mono ?_; rintro e w2 ⟨rfl, rfl⟩)
    go_ret
    exact ⟨rfl, rfl⟩
  · have h1 : cmpI x y = -1 := by unfold cmpI; rw [if_pos (by omega)]
    rw [h1]
    go_enter Tryd.func44, Tryd.ntmps44
    go_wp2_with fail
    go_ret
    exact ⟨rfl, rfl⟩

theorem cuintint_any (x : Int) (y : Nat) (w : World) (hx : x ≤ 9223372036854775807) (hy : y < 18446744073709551616) :
    Calls Tryd.prog 47 #[.int .u64 (y : Int), .int .i64 x] w fun e w' => e = .returned (.int .i64 (cmpI y x)) ∧ w' = w := by
  have hs := cmpI_swap x y
  have hb : -1 ≤ cmpI x y ∧ cmpI x y ≤ 1 := by unfold cmpI; (repeat' split) <;> omega
  rw [hs]
  obtain ⟨c, hc⟩ : ∃ c, cmpI x y = c := ⟨_, rfl⟩
  have hk := cintuint_any x y w hx hy
  rw [hc] at hb hk ⊢
  have HK := Lib.hid hk
  clear hs hk hc
  obtain ⟨hb1, hb2⟩ := hb
  go_enter Tryd.func47, Tryd.ntmps47
  go_wp2_with (go_at_call 44; refine HK.out.mono ?_; rintro e w2 ⟨rfl, rfl⟩)
  go_ret
  exact ⟨rfl, rfl⟩

/-- the order of two words of 64 bits, none of them no number -/
def ordF (x y : Nat) : Int := match FloatKind.f64.format.order x y with | some .lt => -1 | some .eq => 0 | _ => 1

theorem cflt_any (x y : Nat) (w : World) : Calls Tryd.prog 45 #[.float .f64 x, .float .f64 y] w fun e w' => e = .returned (.int .i64 (ordF x y)) ∧ w' = w := by
  unfold ordF
  rcases ho : FloatKind.f64.format.order x y with _ | (_ | _ | _)
  all_goals
    go_enter Tryd.func45, Tryd.ntmps45
    go_wp2_with fail
    go_ret
    exact ⟨rfl, rfl⟩

/-- the order of two complex numbers -/
def ordC (a b c d : Nat) : Int := match FloatKind.f64.format.order a c with | some .lt => -1 | some .eq => ordF b d | _ => 1

theorem ccpx_any (a b c d : Nat) (w : World) : Calls Tryd.prog 46 #[.complex .f64 a b, .complex .f64 c d] w fun e w' => e = .returned (.int .i64 (ordC a b c d)) ∧ w' = w := by
  unfold ordC ordF
  rcases ho : FloatKind.f64.format.order a c with _ | (_ | _ | _)
  case some.eq =>
    rcases hp : FloatKind.f64.format.order b d with _ | (_ | _ | _)
    all_goals
      go_enter Tryd.func46, Tryd.ntmps46
      go_wp2_with fail
      go_ret
      exact ⟨rfl, rfl⟩
  all_goals
    go_enter Tryd.func46, Tryd.ntmps46
    go_wp2_with fail
    go_ret
    exact ⟨rfl, rfl⟩

theorem kind_nil (w : World) : Calls Tryd.prog 22 #[.nilIface] w fun e w' => e = .returned (.int .i64 0) ∧ w' = w := by
  go_enter Tryd.func22, Tryd.ntmps22
  go_wp2_with fail
  go_ret
  exact ⟨rfl, rfl⟩

theorem run_loadBytes {P : Program} {w : World} (xs : List UInt8) : ∀ (b off : Nat) (acc : ByteArray), (∀ (i : Nat) (x : UInt8), xs[i]? = some x → w.cell? ⟨b, off + i, none⟩ = some (.int .u8 (x.toNat : Int))) →
    (Extern.Bytes.loadBytes ⟨b, off, none⟩ xs.length acc).run P w = .ok ⟨acc.data ++ xs.toArray⟩ w := by
  induction xs with
  | nil => intro b off acc _; simp [Extern.Bytes.loadBytes]
  | cons x xs ih =>
    intro b off acc h
    have h0 := h 0 x rfl
    simp only [Nat.add_zero] at h0
    have ih' := ih b (off + 1) (acc.push x) (fun i y hy => by rw [Nat.add_assoc, Nat.add_comm 1 i]; exact h (i + 1) y (by simpa using hy))
    simp [Extern.Bytes.loadBytes, go_sem, h0, Addr.add, ih']

theorem run_bytesOf {P : Program} {w : World} {B : Nat} {a : Option Addr} {n c : Nat} {xs : List UInt8} (h : rdB B w a n xs) : (Extern.Bytes.bytesOf (.slice a n c)).run P w = .ok ⟨xs.toArray⟩ w := by
  obtain ⟨rfl, h2⟩ := h
  rcases h2 with rfl | ⟨b, off, rfl, -, hc⟩
  · cases a <;> rfl
  · have := run_loadBytes (P := P) xs b off .empty hc
    rw [show ByteArray.empty.data = (#[] : Array UInt8) from rfl, Array.empty_append] at this
    exact this

theorem bytesCmp_eq : ∀ (xs ys : List UInt8), Lib.compareBytes xs ys = bytesCmp xs ys
  | [], [] => rfl
  | [], _ :: _ => rfl
  | _ :: _, [] => rfl
  | x :: xs, y :: ys => by unfold Lib.compareBytes bytesCmp; rw [bytesCmp_eq xs ys]

theorem run_bcmp {P : Program} {w : World} {B : Nat} {a1 a2 : Option Addr} {n1 n2 c1 c2 : Nat} {xs ys : List UInt8} (hx : rdB B w a1 n1 xs) (hy : rdB B w a2 n2 ys) :
    (Extern.BytealgCompare.compare #[.slice a1 n1 c1, .slice a2 n2 c2]).run P w = .ok (.int .i64 (bytesCmp xs ys)) w := by
  have h1 := run_bytesOf (P := P) (c := c1) hx
  have h2 := run_bytesOf (P := P) (c := c2) hy
  have h3 := Lib.cmp_eq ⟨xs.toArray⟩ ⟨ys.toArray⟩
  simp only [bytesCmp_eq] at h3
  show (do let x ← Extern.Bytes.bytesOf (.slice a1 n1 c1); let y ← Extern.Bytes.bytesOf (.slice a2 n2 c2); pure (goInt (Extern.BytealgCompare.cmp x y)) : Sem Value).run P w = _
  simp [h1, h2, h3, goInt]

theorem bcmp_any (a1 a2 : Option Addr) (n1 n2 c1 c2 : Nat) (xs ys : List UInt8) (w : World) (hx : rdB w.heap.size w a1 n1 xs) (hy : rdB w.heap.size w a2 n2 ys) :
    Calls Tryd.prog 49 #[.slice a1 n1 c1, .slice a2 n2 c2] w fun e w' => e = .returned (.int .i64 (bytesCmp xs ys)) ∧ w' = w := by
  have hr := run_bcmp (P := Tryd.prog) (c1 := c1) (c2 := c2) hx hy
  have HR := Lib.hid hr
  clear hx hy hr
  go_enter Tryd.func49, Tryd.ntmps49
  go_wp2_with fail
  rw [run_callFunc_extern Tryd.func55 (by kernel_rfl) (by kernel_rfl) (by kernel_rfl) (e := Extern.BytealgCompare.compare) (by kernel_rfl), HR.out]
  simp only [Result.andThen]
  rw [Oper.upon_value]
  go_wp2_with fail
  go_ret
  exact ⟨rfl, rfl⟩
end Go.Proofs.YtaoonpncnahhgaaDoor
