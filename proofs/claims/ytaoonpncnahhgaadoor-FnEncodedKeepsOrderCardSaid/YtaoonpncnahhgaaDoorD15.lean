/-
  impl.Encode and impl.Decode at a list that is let in.
-/
import Derived.Test.YtaoonpncnahhgaaDoorD13
import Derived.Test.YtaoonpncnahhgaaDoorL4
namespace Go.Proofs.YtaoonpncnahhgaaDoor
open Go.RowKit

theorem ctOf_ct (x : AV) : ctOf (ctOf x) = ctOf x := by cases x <;> rfl

theorem lexA_ct : ∀ xs ys : List AV, lexA (xs.map ctOf) (ys.map ctOf) = lexA xs ys
  | [], [] => rfl
  | [], _ :: _ => rfl
  | _ :: _, [] => rfl
  | x :: xs, y :: ys => by
    have := lexA_ct xs ys
    simp only [List.map_cons, lexA, ctOf_ct, this]

theorem colA_ct (xs ys : List AV) : colA (xs.map ctOf) (ys.map ctOf) = colA xs ys := by
  unfold colA
  simp only [List.length_map, lexA_ct]

theorem ite_le {p : Prop} [Decidable p] {a b : List UInt8} {m : Nat} (h1 : a.length ≤ m) (h2 : b.length ≤ m) : (if p then a else b).length ≤ m := by
  split
  · exact h1
  · exact h2
theorem ite_ne {p : Prop} [Decidable p] {a b : List UInt8} (h1 : a ≠ []) (h2 : b ≠ []) : (if p then a else b) ≠ [] := by
  split
  · exact h1
  · exact h2

theorem encI_length (n : Int) : (encI n).length ≤ 9 := by
  unfold encI
  repeat' (refine ite_le ?_ ?_)
  all_goals simp [be_length]

theorem encU_length (n : Nat) (h : n < 18446744073709551616) : (UInt8.ofNat (60 + nb n) :: be (nb n) n).length ≤ 9 := by
  have := nb_le n h
  simp [be_length]; omega

theorem encB_length (xs : List UInt8) : (enc_byt xs).length ≤ 3 + xs.length := by
  unfold enc_byt
  repeat' split
  all_goals simp [be_length]
  all_goals omega
theorem encS_length (xs : List UInt8) : (enc_str xs).length ≤ 3 + xs.length := by
  unfold enc_str
  repeat' split
  all_goals simp [be_length]
  all_goals omega

theorem encI_ne (n : Int) : encI n ≠ [] := by
  unfold encI
  repeat' (refine ite_ne ?_ ?_)
  all_goals exact List.cons_ne_nil _ _
theorem encF_ne (p u : Nat) : encF p u ≠ [] := by
  unfold encF
  split <;> exact List.cons_ne_nil _ _
theorem enc_ne (x : AV) : enc x ≠ [] := by
  cases x with
  | nil => exact List.cons_ne_nil _ _
  | bool b => cases b <;> exact List.cons_ne_nil _ _
  | i8 n => exact encI_ne n
  | i16 n => exact encI_ne n
  | i32 n => exact encI_ne n
  | int n => exact encI_ne n
  | i64 n => exact encI_ne n
  | u8 n => exact List.cons_ne_nil _ _
  | u16 n => exact List.cons_ne_nil _ _
  | u32 n => exact List.cons_ne_nil _ _
  | uint n => exact List.cons_ne_nil _ _
  | u64 n => exact List.cons_ne_nil _ _
  | f32 x r => exact encF_ne 3 r
  | f64 x => exact encF_ne 3 x
  | c64 x y r s => exact fun h => encF_ne 12 r (List.append_eq_nil_iff.1 h).1
  | c128 x y => exact fun h => encF_ne 12 x (List.append_eq_nil_iff.1 h).1
  | byt xs =>
    show enc_byt xs ≠ []
    unfold enc_byt
    repeat' (refine ite_ne ?_ ?_)
    all_goals exact List.cons_ne_nil _ _
  | str xs =>
    show enc_str xs ≠ []
    unfold enc_str
    repeat' (refine ite_ne ?_ ?_)
    all_goals exact List.cons_ne_nil _ _

theorem avS_fits (s : Sc) (hw : s.wf) (hn : s.bn ≤ 65535) : (avS s).fits := by
  have ha := hw.a1
  have hb := hw.b1
  have hl := hw.len
  unfold avS
  split <;> simp only [AV.fits] <;> first | trivial | omega

/-- how many bytes one value takes -/
def AV.room : AV → Nat
  | .byt xs | .str xs => xs.length
  | _ => 0
theorem enc_length (x : AV) (hw : x.wf) : (enc x).length ≤ 18 + x.room := by
  cases x with
  | nil => exact Nat.le_trans (show ([0] : List UInt8).length ≤ 18 by simp) (Nat.le_add_right _ _)
  | bool b => cases b <;> exact Nat.le_trans (show ([_] : List UInt8).length ≤ 18 by simp) (Nat.le_add_right _ _)
  | i8 n => exact Nat.le_trans (encI_length n) (by omega)
  | i16 n => exact Nat.le_trans (encI_length n) (by omega)
  | i32 n => exact Nat.le_trans (encI_length n) (by omega)
  | int n => exact Nat.le_trans (encI_length n) (by omega)
  | i64 n => exact Nat.le_trans (encI_length n) (by omega)
  | u8 n => have h := hw; simp only [AV.wf] at h; exact Nat.le_trans (encU_length n (by omega)) (by omega)
  | u16 n => have h := hw; simp only [AV.wf] at h; exact Nat.le_trans (encU_length n (by omega)) (by omega)
  | u32 n => have h := hw; simp only [AV.wf] at h; exact Nat.le_trans (encU_length n (by omega)) (by omega)
  | uint n => exact Nat.le_trans (encU_length n hw) (by omega)
  | u64 n => exact Nat.le_trans (encU_length n hw) (by omega)
  | f32 x r => exact Nat.le_trans (encF_length 3 r) (by omega)
  | f64 x => exact Nat.le_trans (encF_length 3 x) (by omega)
  | c64 x y r s =>
    have h1 := encF_length 12 r
    have h2 := encF_length 12 s
    show (encF 12 r ++ encF 12 s).length ≤ _
    rw [List.length_append]; omega
  | c128 x y =>
    have h1 := encF_length 12 x
    have h2 := encF_length 12 y
    show (encF 12 x ++ encF 12 y).length ≤ _
    rw [List.length_append]; omega
  | byt xs => have := encB_length xs; show (enc_byt xs).length ≤ 18 + xs.length; omega
  | str xs => have := encS_length xs; show (enc_str xs).length ≤ 18 + xs.length; omega

theorem room_le (s : Sc) (hw : s.wf) : (avS s).room ≤ s.bn := by
  have hl := hw.len
  unfold avS
  split <;> simp only [AV.room] <;> omega

theorem encs_length : ∀ L : List Sc, (∀ s ∈ L, s.wf ∧ OkFacts s ∧ s.bn ≤ 2147483647) → ((L.map avS).flatMap enc).length ≤ 18 * L.length + lens L
  | [], _ => by simp [lens]
  | s :: L, h => by
    have ih := encs_length L (fun t ht => h t (List.mem_cons_of_mem _ ht))
    have hs := h s (List.mem_cons_self ..)
    have h1 := enc_length (avS s) (avS_wf s hs.1 hs.2.1)
    have h2 := room_le s hs.1
    have h3 : lens (s :: L) = s.bn + lens L := by simp [lens]
    rw [h3, List.map_cons, List.flatMap_cons, List.length_append, List.length_cons]
    omega

theorem lens_mem : ∀ (L : List Sc) (s : Sc), s ∈ L → s.bn ≤ lens L
  | t :: L, s, h => by
    have h3 : lens (t :: L) = t.bn + lens L := by simp [lens]
    rcases List.mem_cons.1 h with rfl | h
    · omega
    · have := lens_mem L s h; omega

/-- what okB says of lengths -/
theorem okB_len {L : List Sc} (h : okB L = true) : L.length ≤ 1000 ∧ lens L ≤ 60000 := by
  unfold okB at h
  simp only [Bool.and_eq_true, decide_eq_true_eq] at h
  exact ⟨h.2.1.1, h.2.1.2⟩

theorem wpList_append_zero54 {ops : Array Oper} {rest : List Oper} {o : Oper} {a : Act} {Q : Exit → Act → World → Prop} {w : World} {i : TypeInfo} (hgd : o.guard = none) (s x : Operand)
    (ho : o.op = .call { callee := .builtin .append, args := #[s, x], argTypes := #[54, 54] }) (hi : Tryd.prog.info? 20 = some i)
    (va : Option Addr) (vn vc : Nat) (hv : vn ≤ vc) (hn : va = none → vn = 0 ∧ vc = 0) (b : Option Addr) (c : Nat) (hs : a.eval s = .slice va vn vc) (hx : a.eval x = .slice b 0 c)
    (h : wpList Tryd.prog ops Q rest (a.put o.dst (.slice va vn vc)) w) : wpList Tryd.prog ops Q (o :: rest) a w := by
  refine wpList_plain hgd fun K hK => ?_
  have hrun := run_append_zero (P := Tryd.prog) w 54 o.type 20 i Tryd.underlying54 hi va vn vc hv hn b c
  unfold Oper.wp
  simp [execOp, ho, resolve, invoke, builtin, hs, hx, hrun, Result.andThen]
  exact hK _ _ h

set_option maxRecDepth 100000 in
set_option maxHeartbeats 2000000 in
theorem decs_nil (a : Option Addr) (c : Nat) (hc : c ≤ 9223372036854775807) (w : World) :
    Calls Tryd.prog 23 #[.slice a 0 c] w fun e w' => ∃ a' c', e = .returned (.tuple #[.slice a' 0 c', .nilIface]) ∧ rdV w'.heap.size w' a' [] ∧ Below w.heap.size w w' := by
  obtain ⟨i0, hi, hz0, hz1, hz2⟩ := info_parts info20
  have HL := Lib.hid (fun Q0 s4 A hA hE => loop23 Q0 w a c [] s4 A hA (Nat.zero_le _) hc (Nat.zero_le _) (Nat.zero_le _) ⟨rfl, .inl rfl⟩ (fun p hp => by cases hp) hE)
  go_enter Tryd.func23, Tryd.ntmps23
  (repeat (first | go_values | go_skip | go_guarded | go_step | go_step3 | go_upon))
  refine HL.out _ _ _ ⟨rfl, rfl, rfl, rfl, rfl, rfl⟩ ?_
  intro a' w' b c' v' vs' hs hbl ho hv
  obtain ⟨u, rfl⟩ := hs.frm
  obtain ⟨va, vc, rfl⟩ := ownsRow_slice ho
  have HBL := Lib.hid hbl
  clear hs hbl ho hv HL
  unfold frm23
  (repeat (first | (at_builtin; refine wpList_append_zero54 rfl (.const (.slice none 0 0)) (.tmp 487) rfl hi none 0 0 (Nat.le_refl _) (fun _ => ⟨rfl, rfl⟩) _ _ rfl rfl ?_) | go_values | go_skip | go_guarded | go_step | go_step3 | go_upon))
  simp only [Exit.noGoto]
  go_ret2
  exact ⟨none, 0, rfl, .inl rfl, HBL.out⟩

theorem decode_all (a : Option Addr) (c : Nat) (L : List Sc) (W : World) (hL : ∀ s ∈ L, (avS s).wf ∧ (avS s).fits) (bs : List UInt8) (hbs : (L.map avS).flatMap enc = bs) (hl : bs.length ≤ 100000000) (hk : L.length ≤ 100000000)
    (hr : rdB W.heap.size W a bs.length bs) :
    Calls Tryd.prog 10 #[.slice a bs.length c] W fun e w' => ∃ a' c' ss, e = .returned (.tuple #[.slice a' L.length c', .int .i64 0]) ∧ ss.map avS = (L.map avS).map ctOf ∧ scs w' ss ∧ rdL w'.heap.size w' a' ss ∧ Below W.heap.size W w' := by
  refine decode_of a bs.length c bs ((L.map avS).map ctOf) L.length (by simp) hk W (clone_any a c bs W hl hr) ?_ ?_
  · intro a' c' w' hc1 hc2 hr'
    by_cases h0 : L = []
    · subst h0
      subst hbs
      exact decs_nil a' c' hc2 w'
    · have h := decs_any a' c' (L.map fun s => (enc (avS s), ctOf (avS s))) bs (by rw [← hbs]; simp [bytesOf, List.flatMap_map]) w' (by simpa using h0) hc1 hc2 hl (by simpa using hk) hr'.1 (fun p hp => by
        obtain ⟨s, hs, rfl⟩ := List.mem_map.1 hp
        exact ⟨round23_enc _ (hL s hs).1 (hL s hs).2, enc_ne _⟩)
      rw [List.length_map] at h
      have e : valsOf (L.map fun s => (enc (avS s), ctOf (avS s))) = (L.map avS).map ctOf := by simp [valsOf, List.map_map, Function.comp_def]
      rw [e] at h
      exact h
  · intro y hy
    obtain ⟨x, hx, rfl⟩ := List.mem_map.1 hy
    obtain ⟨s, hs, rfl⟩ := List.mem_map.1 hx
    exact scal_ct _ (hL s hs).1 (hL s hs).2

/-- the bytes of a list -/
def encL (L : List Sc) : List UInt8 := (L.map avS).flatMap enc

theorem In.av {w : World} {a : Option Addr} {n : Nat} {L : List Sc} (h : In w a n L) (hf : fitsB L = true) (ho : okB L = true) : ∀ s ∈ L, (avS s).wf ∧ (avS s).fits := fun s hs =>
  have g := h.ok hf ho s hs
  ⟨avS_wf s g.1 g.2.1, avS_fits s g.1 (by have := lens_mem L s hs; have := (okB_len ho).2; omega)⟩

theorem In.encode {w : World} {a : Option Addr} {n : Nat} {L : List Sc} (h : In w a n L) (hf : fitsB L = true) (ho : okB L = true) (c : Nat) :
    Calls Tryd.prog 9 #[.slice a n c] w fun e w' => ∃ a' c', e = .returned (.tuple #[.slice a' (encL L).length c', .int .i64 0]) ∧ rdB w'.heap.size w' a' (encL L).length (encL L) ∧ Below w.heap.size w w' := by
  have hlen := encs_length L (h.ok hf ho)
  have hk := okB_len ho
  refine implEncode_any a n c L enc w h.hl (by have := (fitsB_n hf).1; have := h.hl; omega) h.rd (h.ok hf ho) (fun x hx => ?_) (encL L) rfl (by unfold encL; omega)
  obtain ⟨s, hs, rfl⟩ := List.mem_map.1 hx
  exact round20_enc _ (h.av hf ho s hs).1 (h.av hf ho s hs).2

theorem In.decode {w : World} {a : Option Addr} {n : Nat} {L : List Sc} (h : In w a n L) (hf : fitsB L = true) (ho : okB L = true) (a2 : Option Addr) (c : Nat) (W : World) (hr : rdB W.heap.size W a2 (encL L).length (encL L)) :
    Calls Tryd.prog 10 #[.slice a2 (encL L).length c] W fun e w' => ∃ a' c' ss, e = .returned (.tuple #[.slice a' n c', .int .i64 0]) ∧ ss.map avS = (L.map avS).map ctOf ∧ scs w' ss ∧ rdL w'.heap.size w' a' ss ∧ Below W.heap.size W w' := by
  have hlen := encs_length L (h.ok hf ho)
  have hk := okB_len ho
  have := decode_all a2 c L W (h.av hf ho) (encL L) rfl (by unfold encL; omega) (by omega) hr
  rw [h.hl] at this
  exact this

end Go.Proofs.YtaoonpncnahhgaaDoor
