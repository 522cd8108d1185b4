/-
  impl.calls over a MemFiler.
-/
import Derived.Test.YtkkliejgmgmebaaDoorM8
namespace Go.Proofs.YtkkliejgmgmebaaDoor
open Go.RowKit

/-- a call of a filer, as it lies in memory -/
structure Op where
  kind : Int
  off : Int
  size : Int
  a : Option Addr
  n : Nat
  c : Nat
  d : List UInt8

/-- one call in memory -/
structure OpAt (Pr : Nat → Prop) (w : World) (b o i : Nat) (x : Op) : Prop where
  c0 : w.cell? ⟨b, o + i * 4, none⟩ = some (.int .i64 x.kind)
  c1 : w.cell? ⟨b, o + i * 4 + 1, none⟩ = some (.int .i64 x.off)
  c2 : w.cell? ⟨b, o + i * 4 + 2, none⟩ = some (.int .i64 x.size)
  c3 : w.cell? ⟨b, o + i * 4 + 3, none⟩ = some (.slice x.a x.n x.c)
  nc : x.n ≤ x.c
  cb : x.c ≤ 9223372036854775807
  rd : Rd Pr w x.a x.n x.d

/-- a list of calls -/
def rdO (Pr : Nat → Prop) (w : World) (a : Option Addr) (L : List Op) : Prop :=
  L = [] ∨ ∃ b o, a = some ⟨b, o, none⟩ ∧ Pr b ∧ ∀ (i : Nat) x, L[i]? = some x → OpAt Pr w b o i x

theorem OpAt.keeps {Pr : Nat → Prop} {w w' : World} {b o i : Nat} {x : Op} (h : OpAt Pr w b o i x) (hb : Pr b) (hk : Keeps Pr w w') : OpAt Pr w' b o i x :=
  ⟨(hk.cell (a := ⟨b, _, none⟩) hb).trans h.c0, (hk.cell (a := ⟨b, _, none⟩) hb).trans h.c1, (hk.cell (a := ⟨b, _, none⟩) hb).trans h.c2, (hk.cell (a := ⟨b, _, none⟩) hb).trans h.c3, h.nc, h.cb, h.rd.keeps hk⟩
theorem OpAt.mono {Pr Pr' : Nat → Prop} {w : World} {b o i : Nat} {x : Op} (h : OpAt Pr w b o i x) (hp : ∀ k, Pr k → Pr' k) : OpAt Pr' w b o i x := ⟨h.c0, h.c1, h.c2, h.c3, h.nc, h.cb, h.rd.mono hp⟩
theorem rdO.keeps {Pr : Nat → Prop} {w w' : World} {a : Option Addr} {L : List Op} (h : rdO Pr w a L) (hk : Keeps Pr w w') : rdO Pr w' a L := by
  rcases h with h0 | ⟨b, o, rfl, hb, hc⟩
  · exact .inl h0
  · exact .inr ⟨b, o, rfl, hb, fun i x hx => (hc i x hx).keeps hb hk⟩
theorem rdO.mono {Pr Pr' : Nat → Prop} {w : World} {a : Option Addr} {L : List Op} (h : rdO Pr w a L) (hp : ∀ k, Pr k → Pr' k) : rdO Pr' w a L := by
  rcases h with h0 | ⟨b, o, rfl, hb, hc⟩
  · exact .inl h0
  · exact .inr ⟨b, o, rfl, hp b hb, fun i x hx => (hc i x hx).mono hp⟩

/-- the bytes behind calls -/
def memB (bs : List UInt8) (L : List Op) : List UInt8 := L.foldl (fun b o => mstep b o.kind o.off o.size o.d) bs

theorem memB_snoc (bs : List UInt8) (L : List Op) (o : Op) : memB bs (L ++ [o]) = mstep (memB bs L) o.kind o.off o.size o.d := by simp [memB]

theorem mstep_len (bs : List UInt8) (o : Op) (len : Nat) (h : fitsB len o.kind o.off o.size o.n = true) (hd : o.d.length = o.n) : (mstep bs o.kind o.off o.size o.d).length ≤ max bs.length 262144 := by
  unfold mstep
  split
  · rename_i k0
    rw [k0] at h
    obtain ⟨h1, h2, h3, h4⟩ := fitsB_0 h
    rw [wrB_length _ _ _ (by intro e; rw [e] at hd; simp at hd; omega)]
    omega
  · split
    · rename_i k0 k2
      rw [k2] at h
      obtain ⟨h1, h2⟩ := fitsB_2 h
      unfold resB
      rw [List.length_append, List.length_take, List.length_replicate]
      omega
    · omega

/-- every call is one of which something is said -/
def fitsAll (L : List Op) : Prop := ∀ o ∈ L, ∃ len, fitsB len o.kind o.off o.size o.n = true

theorem memB_len : ∀ (L : List Op) (bs : List UInt8), fitsAll L → (∀ o ∈ L, o.d.length = o.n) → (memB bs L).length ≤ max bs.length 262144
  | [], bs, _, _ => by show bs.length ≤ _; omega
  | o :: L, bs, hf, hd => by
    have h1 := memB_len L (mstep bs o.kind o.off o.size o.d) (fun x hx => hf x (List.mem_cons_of_mem _ hx)) (fun x hx => hd x (List.mem_cons_of_mem _ hx))
    obtain ⟨len, hl⟩ := hf o (List.mem_cons_self ..)
    have h2 := mstep_len bs o len hl (hd o (List.mem_cons_self ..))
    show (memB (mstep bs o.kind o.off o.size o.d) L).length ≤ _
    omega

/-- a result with the place of its bytes -/
structure RS where
  r : Res
  a : Option Addr
  c : Nat

abbrev RS.cells (x : RS) : List Value := [.int .i64 x.r.n, .slice x.a x.r.d.length x.c, .int .i64 x.r.sz, .int .i64 x.r.err]

/-- these are the results of these calls -/
def Results (bs : List UInt8) (L : List Op) (R : List RS) : Prop := R.length = L.length ∧ ∀ (j : Nat) (x : RS) (o : Op), R[j]? = some x → L[j]? = some o → resOk (memB bs (L.take j)) o.kind o.off o.size o.n x.r

theorem Results.snoc {bs : List UInt8} {L : List Op} {R : List RS} {o : Op} {x : RS} (h : Results bs L R) (hx : resOk (memB bs L) o.kind o.off o.size o.n x.r) : Results bs (L ++ [o]) (R ++ [x]) := by
  refine ⟨by simp [h.1], fun j y p hy hp => ?_⟩
  have hj : j < L.length + 1 := by have := (List.getElem?_eq_some_iff.1 hp).1; simpa using this
  by_cases hlt : j < L.length
  · rw [List.getElem?_append_left (by rw [h.1]; exact hlt)] at hy
    rw [List.getElem?_append_left hlt] at hp
    rw [List.take_append_of_le_length (by omega)]
    exact h.2 j y p hy hp
  · obtain rfl : j = L.length := by omega
    rw [List.getElem?_append_right (by rw [h.1]; exact Nat.le_refl _), h.1, Nat.sub_self] at hy
    rw [List.getElem?_append_right (Nat.le_refl _), Nat.sub_self] at hp
    simp only [List.getElem?_cons_zero, Option.some.injEq] at hy hp
    subst hy hp
    rw [List.take_left']
    · exact hx
    · rfl

noncomputable def body20 : Code := ((Tryd.f20.body.bind firstLoop).getD .skip)

theorem infoResult : (Tryd.prog.info? 40).map (fun i => (i.zero, i.size, i.bytes)) = some (some (.agg #[.int .i64 0, .slice none 0 0, .int .i64 0, .int .i64 0]), 4, 48) := by kernel_rfl

structure frm20p (s0 s5 s8 s9 s10 : Value) (a : Act) : Prop where
  df : a.defers = []
  sz : a.tmps.size = 22
  h0 : a.tmps.getD 0 undef = s0
  h5 : a.tmps.getD 5 undef = s5
  h8 : a.tmps.getD 8 undef = s8
  h9 : a.tmps.getD 9 undef = s9
  h10 : a.tmps.getD 10 undef = s10
set_option maxRecDepth 100000 in
theorem frm20 {s0 s5 s8 s9 s10 : Value} {a : Act} (h : frm20p s0 s5 s8 s9 s10 a) : ∃ u : Nat → Value, a = ⟨#[s0, u 1, u 2, u 3, u 4, s5, u 6, u 7, s8, s9, s10, u 11, u 12, u 13, u 14, u 15, u 16, u 17, u 18, u 19, u 20, u 21], []⟩ := by
  obtain ⟨F, df⟩ := a
  obtain ⟨rfl, hs, rfl, rfl, rfl, rfl, rfl⟩ := h
  refine ⟨fun i => F.getD i undef, ?_⟩
  have e := open_frame F
  rw [hs] at e
  exact congrArg (Act.mk · []) e

end Go.Proofs.YtkkliejgmgmebaaDoor
