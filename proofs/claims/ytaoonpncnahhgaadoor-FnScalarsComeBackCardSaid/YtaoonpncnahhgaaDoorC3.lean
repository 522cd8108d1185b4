/-
  The walk of impl.value.
-/
import Derived.Test.YtaoonpncnahhgaaDoorC2
import Derived.Test.YtaoonpncnahhgaaDoorWa
import Derived.Test.YtaoonpncnahhgaaDoorFlt2
import Derived.Laws.BytesString
import Derived.Deep.RegionWith
namespace Go.Proofs.YtaoonpncnahhgaaDoor
open Go.RowKit

def down (a : Nat) : Nat := (floatToFloatBits .f64 a .f32).getD 0

/-- the value that the thin package makes of a scalar -/
def avS (s : Sc) : AV :=
  match s.kind.toNat with
  | 0 => .nil | 1 => .bool (s.int != 0) | 2 => .i8 s.int | 3 => .i16 s.int | 4 => .i32 s.int | 5 => .int s.int | 6 => .i64 s.int
  | 7 => .u8 s.uint | 8 => .u16 s.uint | 9 => .u32 s.uint | 10 => .uint s.uint | 11 => .u64 s.uint
  | 12 => .f32 (down s.a) s.a | 13 => .f64 s.a | 14 => .c64 (down s.a) (down s.b) s.a s.b | 15 => .c128 s.a s.b
  | 16 => .byt s.bytes | _ => .str s.bytes

theorem run_bytes_string {P : Program} {w : World} {B : Nat} {a : Option Addr} {n c : Nat} {xs : List UInt8} (h : rdB B w a n xs) (src dst e : TypeId)
    (hs : P.underlying src = some (.slice e)) (he : P.underlying e = some (.int .u8)) (hd : P.underlying dst = some .string) :
    (convert src dst (.slice a n c)).run P w = .ok (.string ⟨xs.toArray⟩) w := by
  rw [run_convert_bytes_string w src dst e a n c hs he hd]
  obtain ⟨rfl, h2⟩ := h
  have hf : ∀ (l : List UInt8) (acc : ByteArray), (l.map fun x => (x.toNat : Int)).foldl (fun r n => r.push (UInt8.ofNat n.toNat)) acc = ⟨acc.data ++ l.toArray⟩ := by
    intro l
    induction l with
    | nil => intro acc; simp
    | cons x l ih =>
      intro acc
      simp only [List.map_cons, List.foldl_cons]
      rw [ih]
      simp [ByteArray.push]
  have hn : ∀ a : Addr, (∀ (i : Nat) (x : UInt8), xs[i]? = some x → w.cell? (a.add i) = some (.int .u8 (x.toNat : Int))) → (Conv.bytesToString (.slice (some a) xs.length c)).run P w = .ok (.string ⟨xs.toArray⟩) w := fun a hc => by
    have h1 := run_bytesToString (P := P) w a xs.length c (xs.map fun x => (x.toNat : Int)) (by
      have h2 := run_loadCells_list (P := P) (w := w) a ((xs.map fun x => (x.toNat : Int)).map (Value.int .u8)) (fun j v hv => by
        rw [List.getElem?_map, List.getElem?_map] at hv
        cases hx : xs[j]? with
        | none => rw [hx] at hv; cases hv
        | some x => rw [hx] at hv; simp at hv; subst hv; exact hc j x hx)
      simpa using h2)
    rw [h1, hf, show ByteArray.empty.data = (#[] : Array UInt8) from rfl, Array.empty_append]
  rcases h2 with rfl | ⟨b, off, rfl, -, hc⟩
  · cases a with
    | none => rfl
    | some a => exact hn a (fun i x hx => by simp at hx)
  · exact hn _ (fun i x hx => by rw [Addr.add_lit]; exact hc i x hx)

theorem run_frombits (x : Nat) (w : World) : (callFunc 54 #[.int .u64 (x : Int)]).run Tryd.prog w = .ok (.value (.float .f64 x)) w := by
  rw [run_callFunc_extern Tryd.func54 (by kernel_rfl) (by kernel_rfl) (by kernel_rfl) (e := Extern.MathFloatBits.float64frombits) (by kernel_rfl)]
  rfl

theorem info5 : (Tryd.prog.info? 5).map (fun i => (i.zero, i.size, i.bytes)) = some (some (.int .u8 0), 1, 1) := by kernel_rfl

theorem va_nil (it : Int) (u fa fb : Nat) (ba : Option Addr) (bn bc : Nat) (w : World) : Calls Tryd.prog 37 #[.agg #[.int .i64 0, .int .i64 it, .int .u64 (u : Int), .int .u64 (fa : Int), .int .u64 (fb : Int), .slice ba bn bc]] w fun e w' => e = .returned (.nilIface) ∧ Below w.heap.size w w' := by
  have hfb := run_frombits
  go_enter Tryd.func37, Tryd.ntmps37
  go_wp2_with fail
  go_quiet (fail)
  go_wp2_with fail
  go_ret
  exact ⟨rfl, by repeat (first | exact below1 _ _ | apply below_drewN)⟩
theorem va_bool (it : Int) (u fa fb : Nat) (ba : Option Addr) (bn bc : Nat) (w : World) : Calls Tryd.prog 37 #[.agg #[.int .i64 1, .int .i64 it, .int .u64 (u : Int), .int .u64 (fa : Int), .int .u64 (fb : Int), .slice ba bn bc]] w fun e w' => e = .returned (.iface 4 (.bool (it != 0))) ∧ Below w.heap.size w w' := by
  have hfb := run_frombits
  go_enter Tryd.func37, Tryd.ntmps37
  go_wp2_with fail
  go_quiet (fail)
  go_wp2_with fail
  go_ret
  exact ⟨rfl, by repeat (first | exact below1 _ _ | apply below_drewN)⟩
theorem va_i8 (it : Int) (u fa fb : Nat) (ba : Option Addr) (bn bc : Nat) (w : World) (h0 : -128 ≤ it) (h1 : it ≤ 127) : Calls Tryd.prog 37 #[.agg #[.int .i64 2, .int .i64 it, .int .u64 (u : Int), .int .u64 (fa : Int), .int .u64 (fb : Int), .slice ba bn bc]] w fun e w' => e = .returned (.iface 83 (.int .i8 it)) ∧ Below w.heap.size w w' := by
  have hfb := run_frombits
  go_enter Tryd.func37, Tryd.ntmps37
  go_wp2_with fail
  go_quiet (fail)
  go_wp2_with fail
  go_ret
  exact ⟨rfl, by repeat (first | exact below1 _ _ | apply below_drewN)⟩
theorem va_i16 (it : Int) (u fa fb : Nat) (ba : Option Addr) (bn bc : Nat) (w : World) (h0 : -32768 ≤ it) (h1 : it ≤ 32767) : Calls Tryd.prog 37 #[.agg #[.int .i64 3, .int .i64 it, .int .u64 (u : Int), .int .u64 (fa : Int), .int .u64 (fb : Int), .slice ba bn bc]] w fun e w' => e = .returned (.iface 85 (.int .i16 it)) ∧ Below w.heap.size w w' := by
  have hfb := run_frombits
  go_enter Tryd.func37, Tryd.ntmps37
  go_wp2_with fail
  go_quiet (fail)
  go_wp2_with fail
  go_ret
  exact ⟨rfl, by repeat (first | exact below1 _ _ | apply below_drewN)⟩
theorem va_i32 (it : Int) (u fa fb : Nat) (ba : Option Addr) (bn bc : Nat) (w : World) (h0 : -2147483648 ≤ it) (h1 : it ≤ 2147483647) : Calls Tryd.prog 37 #[.agg #[.int .i64 4, .int .i64 it, .int .u64 (u : Int), .int .u64 (fa : Int), .int .u64 (fb : Int), .slice ba bn bc]] w fun e w' => e = .returned (.iface 21 (.int .i32 it)) ∧ Below w.heap.size w w' := by
  have hfb := run_frombits
  go_enter Tryd.func37, Tryd.ntmps37
  go_wp2_with fail
  go_quiet (fail)
  go_wp2_with fail
  go_ret
  exact ⟨rfl, by repeat (first | exact below1 _ _ | apply below_drewN)⟩
theorem va_int (it : Int) (u fa fb : Nat) (ba : Option Addr) (bn bc : Nat) (w : World) (_h0 : -9223372036854775808 ≤ it) (_h1 : it ≤ 9223372036854775807) : Calls Tryd.prog 37 #[.agg #[.int .i64 5, .int .i64 it, .int .u64 (u : Int), .int .u64 (fa : Int), .int .u64 (fb : Int), .slice ba bn bc]] w fun e w' => e = .returned (.iface 3 (.int .i64 it)) ∧ Below w.heap.size w w' := by
  have hfb := run_frombits
  go_enter Tryd.func37, Tryd.ntmps37
  go_wp2_with fail
  go_quiet (fail)
  go_wp2_with fail
  go_ret
  exact ⟨rfl, by repeat (first | exact below1 _ _ | apply below_drewN)⟩
theorem va_i64 (it : Int) (u fa fb : Nat) (ba : Option Addr) (bn bc : Nat) (w : World) (_h0 : -9223372036854775808 ≤ it) (_h1 : it ≤ 9223372036854775807) : Calls Tryd.prog 37 #[.agg #[.int .i64 6, .int .i64 it, .int .u64 (u : Int), .int .u64 (fa : Int), .int .u64 (fb : Int), .slice ba bn bc]] w fun e w' => e = .returned (.iface 2 (.int .i64 it)) ∧ Below w.heap.size w w' := by
  have hfb := run_frombits
  go_enter Tryd.func37, Tryd.ntmps37
  go_wp2_with fail
  go_quiet (fail)
  go_wp2_with fail
  go_ret
  exact ⟨rfl, by repeat (first | exact below1 _ _ | apply below_drewN)⟩
theorem va_u8 (it : Int) (u fa fb : Nat) (ba : Option Addr) (bn bc : Nat) (w : World) (h1 : u < 256) : Calls Tryd.prog 37 #[.agg #[.int .i64 7, .int .i64 it, .int .u64 (u : Int), .int .u64 (fa : Int), .int .u64 (fb : Int), .slice ba bn bc]] w fun e w' => e = .returned (.iface 5 (.int .u8 (u : Int))) ∧ Below w.heap.size w w' := by
  have hfb := run_frombits
  go_enter Tryd.func37, Tryd.ntmps37
  go_wp2_with fail
  go_quiet (fail)
  go_wp2_with fail
  go_ret
  exact ⟨rfl, by repeat (first | exact below1 _ _ | apply below_drewN)⟩
theorem va_u16 (it : Int) (u fa fb : Nat) (ba : Option Addr) (bn bc : Nat) (w : World) (h1 : u < 65536) : Calls Tryd.prog 37 #[.agg #[.int .i64 8, .int .i64 it, .int .u64 (u : Int), .int .u64 (fa : Int), .int .u64 (fb : Int), .slice ba bn bc]] w fun e w' => e = .returned (.iface 86 (.int .u16 (u : Int))) ∧ Below w.heap.size w w' := by
  have hfb := run_frombits
  go_enter Tryd.func37, Tryd.ntmps37
  go_wp2_with fail
  go_quiet (fail)
  go_wp2_with fail
  go_ret
  exact ⟨rfl, by repeat (first | exact below1 _ _ | apply below_drewN)⟩
theorem va_u32 (it : Int) (u fa fb : Nat) (ba : Option Addr) (bn bc : Nat) (w : World) (h1 : u < 4294967296) : Calls Tryd.prog 37 #[.agg #[.int .i64 9, .int .i64 it, .int .u64 (u : Int), .int .u64 (fa : Int), .int .u64 (fb : Int), .slice ba bn bc]] w fun e w' => e = .returned (.iface 87 (.int .u32 (u : Int))) ∧ Below w.heap.size w w' := by
  have hfb := run_frombits
  go_enter Tryd.func37, Tryd.ntmps37
  go_wp2_with fail
  go_quiet (fail)
  go_wp2_with fail
  go_ret
  exact ⟨rfl, by repeat (first | exact below1 _ _ | apply below_drewN)⟩
theorem va_uint (it : Int) (u fa fb : Nat) (ba : Option Addr) (bn bc : Nat) (w : World) (_h1 : u < 18446744073709551616) : Calls Tryd.prog 37 #[.agg #[.int .i64 10, .int .i64 it, .int .u64 (u : Int), .int .u64 (fa : Int), .int .u64 (fb : Int), .slice ba bn bc]] w fun e w' => e = .returned (.iface 70 (.int .u64 (u : Int))) ∧ Below w.heap.size w w' := by
  have hfb := run_frombits
  go_enter Tryd.func37, Tryd.ntmps37
  go_wp2_with fail
  go_quiet (fail)
  go_wp2_with fail
  go_ret
  exact ⟨rfl, by repeat (first | exact below1 _ _ | apply below_drewN)⟩
theorem va_u64 (it : Int) (u fa fb : Nat) (ba : Option Addr) (bn bc : Nat) (w : World) (_h1 : u < 18446744073709551616) : Calls Tryd.prog 37 #[.agg #[.int .i64 11, .int .i64 it, .int .u64 (u : Int), .int .u64 (fa : Int), .int .u64 (fb : Int), .slice ba bn bc]] w fun e w' => e = .returned (.iface 32 (.int .u64 (u : Int))) ∧ Below w.heap.size w w' := by
  have hfb := run_frombits
  go_enter Tryd.func37, Tryd.ntmps37
  go_wp2_with fail
  go_quiet (fail)
  go_wp2_with fail
  go_ret
  exact ⟨rfl, by repeat (first | exact below1 _ _ | apply below_drewN)⟩
theorem va_f32 (it : Int) (u fa fb : Nat) (ba : Option Addr) (bn bc : Nat) (w : World) (d : Nat) (h : floatToFloatBits .f64 fa .f32 = some d) : Calls Tryd.prog 37 #[.agg #[.int .i64 12, .int .i64 it, .int .u64 (u : Int), .int .u64 (fa : Int), .int .u64 (fb : Int), .slice ba bn bc]] w fun e w' => e = .returned (.iface 74 (.float .f32 d)) ∧ Below w.heap.size w w' := by
  have hfb := run_frombits
  have hr := fun w => run_convert_float_float (P := Tryd.prog) w 76 74 .f64 .f32 fa d (by rw [Tryd.underlying76]; rfl) Tryd.underlying74 h
  clear h
  go_enter Tryd.func37, Tryd.ntmps37
  go_wp2_with fail
  go_quiet (fail)
  go_wp2_with fail
  go_ret
  exact ⟨rfl, by repeat (first | exact below1 _ _ | apply below_drewN)⟩
theorem va_f64 (it : Int) (u fa fb : Nat) (ba : Option Addr) (bn bc : Nat) (w : World) : Calls Tryd.prog 37 #[.agg #[.int .i64 13, .int .i64 it, .int .u64 (u : Int), .int .u64 (fa : Int), .int .u64 (fb : Int), .slice ba bn bc]] w fun e w' => e = .returned (.iface 76 (.float .f64 fa)) ∧ Below w.heap.size w w' := by
  have hfb := run_frombits
  go_enter Tryd.func37, Tryd.ntmps37
  go_wp2_with fail
  go_quiet (fail)
  go_wp2_with fail
  go_ret
  exact ⟨rfl, by repeat (first | exact below1 _ _ | apply below_drewN)⟩
theorem va_c64 (it : Int) (u fa fb : Nat) (ba : Option Addr) (bn bc : Nat) (w : World) (d d' : Nat) (h : floatToFloatBits .f64 fa .f32 = some d) (h2 : floatToFloatBits .f64 fb .f32 = some d') : Calls Tryd.prog 37 #[.agg #[.int .i64 14, .int .i64 it, .int .u64 (u : Int), .int .u64 (fa : Int), .int .u64 (fb : Int), .slice ba bn bc]] w fun e w' => e = .returned (.iface 78 (.complex .f32 d d')) ∧ Below w.heap.size w w' := by
  have hfb := run_frombits
  have hr := fun w => run_convert_complex (P := Tryd.prog) w 80 78 .f64 .f32 fa fb d d' (by rw [Tryd.underlying80]; rfl) Tryd.underlying78 (by unfold cConvBits; rw [h, h2]; rfl)
  clear h h2
  go_enter Tryd.func37, Tryd.ntmps37
  go_wp2_with fail
  go_quiet (fail)
  go_wp2_with fail
  go_ret
  exact ⟨rfl, by repeat (first | exact below1 _ _ | apply below_drewN)⟩
theorem va_c128 (it : Int) (u fa fb : Nat) (ba : Option Addr) (bn bc : Nat) (w : World) : Calls Tryd.prog 37 #[.agg #[.int .i64 15, .int .i64 it, .int .u64 (u : Int), .int .u64 (fa : Int), .int .u64 (fb : Int), .slice ba bn bc]] w fun e w' => e = .returned (.iface 80 (.complex .f64 fa fb)) ∧ Below w.heap.size w w' := by
  have hfb := run_frombits
  go_enter Tryd.func37, Tryd.ntmps37
  go_wp2_with fail
  go_quiet (fail)
  go_wp2_with fail
  go_ret
  exact ⟨rfl, by repeat (first | exact below1 _ _ | apply below_drewN)⟩

set_option maxRecDepth 100000 in
theorem va_str (it : Int) (u fa fb : Nat) (ba : Option Addr) (bn bc : Nat) (bs : List UInt8) (w : World) (h : rdB w.heap.size w ba bn bs) : Calls Tryd.prog 37 #[.agg #[.int .i64 17, .int .i64 it, .int .u64 (u : Int), .int .u64 (fa : Int), .int .u64 (fb : Int), .slice ba bn bc]] w fun e w' => e = .returned (.iface 9 (.string ⟨bs.toArray⟩)) ∧ Below w.heap.size w w' := by
  have hfb := run_frombits
  have HH := Lib.hid h
  clear h
  go_enter Tryd.func37, Tryd.ntmps37
  go_wp2_with fail
  go_quiet (fail)
  have hr := run_bytes_string (P := Tryd.prog) (c := bc) (HH.out.below (below_drewN (below1 w (.cells #[.int .i64 17, .int .i64 it, .int .u64 (u : Int), .int .u64 (fa : Int), .int .u64 (fb : Int), .slice ba bn bc] 34)) nq) (Nat.le_refl _)) 27 9 5 Tryd.underlying27 Tryd.underlying5 Tryd.underlying9
  go_wp2_with fail
  go_ret
  exact ⟨rfl, by repeat (first | exact below1 _ _ | apply below_drewN)⟩

theorem run_append_empty {P : Program} (w : World) (t ty e : TypeId) (i : TypeInfo) (ht : P.underlying t = some (.slice e)) (hi : P.info? e = some i) (a : Addr) (b : Option Addr) (c : Nat) :
    (Builtin.append_ #[t, t] ty #[.slice (some a) 0 0, .slice b 0 c]).run P w = .ok (.slice (some a) 0 0) w := by
  cases b <;> simp [Builtin.append_, run_underlying ht, sizeOf, typeInfo, hi, Builtin.lenOf, Builtin.firstCells, loadCells, loadCellsFrom, storeCells]

theorem wpList_append_empty {P : Program} {w : World} {ops : Array Oper} {rest : List Oper} {o : Oper} {a : Act} {Q : Exit → Act → World → Prop} (hgd : o.guard = none) (s x : Operand) (t : TypeId)
    (ho : o.op = .call { callee := .builtin .append, args := #[s, x], argTypes := #[t, t] })
    (e : TypeId) (i : TypeInfo) (ht : P.underlying t = some (.slice e)) (hi : P.info? e = some i) (ad : Addr) (b : Option Addr) (c : Nat)
    (hs : a.eval s = .slice (some ad) 0 0) (hx : a.eval x = .slice b 0 c)
    (h : wpList P ops Q rest (a.put o.dst (.slice (some ad) 0 0)) w) : wpList P ops Q (o :: rest) a w := by
  refine wpList_plain hgd fun K hK => ?_
  have hrun := run_append_empty (P := P) w t o.type e i ht hi ad b c
  unfold Oper.wp
  simp [execOp, ho, resolve, invoke, builtin, hs, hx, hrun, Result.andThen]
  exact hK _ _ h

theorem owns_rdB {w : World} {base n : Nat} {v : Value} {bs : List UInt8} (hl : bs.length = n) (h : w.ownsRow base 5 1 v n (bs.map fun x => Value.int .u8 (x.toNat : Int))) :
    ∃ a c, v = .slice a n c ∧ n ≤ c ∧ c ≤ 9223372036854775807 ∧ rdB5 w.heap.size w a n bs := by
  obtain ⟨-, h2⟩ := h
  rcases h2 with ⟨rfl, rfl⟩ | ⟨g, cap, cur, rfl, hbg, hg, hnc, hcm, hcs, htake⟩
  · exact ⟨none, 0, rfl, Nat.le_refl _, by omega, ⟨hl, .inl (List.eq_nil_of_length_eq_zero hl)⟩, .inl (List.eq_nil_of_length_eq_zero hl)⟩
  · have hlt : g < w.heap.size := by
      rcases Nat.lt_or_ge g w.heap.size with h | h
      · exact h
      · simp [Array.getElem?_eq_none h] at hg
    refine ⟨some ⟨g, 0, none⟩, cap, rfl, hnc, by unfold maxLen at hcm; omega, ⟨hl, .inr ⟨g, 0, rfl, hlt, fun i x hx => ?_⟩⟩, .inr ⟨g, 0, _, _, rfl, hlt, hg⟩⟩
    have hi : i < n := by
      rcases Nat.lt_or_ge i bs.length with h | h
      · omega
      · rw [List.getElem?_eq_none h] at hx; cases hx
    have h1 : (bs.map fun x => Value.int .u8 (x.toNat : Int))[i]? = some (.int .u8 (x.toNat : Int)) := by rw [List.getElem?_map, hx]; rfl
    rw [← htake, List.getElem?_take_of_lt (by omega)] at h1
    rw [(cells_at hg).1, Nat.zero_add, ← h1]
    simp

set_option maxRecDepth 100000 in
theorem va_byt0 (it : Int) (u fa fb : Nat) (ba : Option Addr) (bc : Nat) (w : World) : Calls Tryd.prog 37 #[.agg #[.int .i64 16, .int .i64 it, .int .u64 (u : Int), .int .u64 (fa : Int), .int .u64 (fb : Int), .slice ba 0 bc]] w fun e w' => (∃ a, e = .returned (.iface 27 (.slice (some a) 0 0))) ∧ Below w.heap.size w w' := by
  have hfb := run_frombits
  obtain ⟨i0, hi, hz0, hz1, hz2⟩ := info_parts info5
  go_enter Tryd.func37, Tryd.ntmps37
  go_wp2_with fail
  go_quiet (fail)
  go_wp2_with (at_builtin; refine wpList_append_empty rfl (.tmp 99) (.tmp 101) 27 rfl 5 i0 Tryd.underlying27 hi _ ba bc rfl rfl ?_)
  go_ret
  exact ⟨⟨_, rfl⟩, (below_drewN (below1 _ _) _).alloc (by simp) _⟩

set_option maxRecDepth 100000 in
theorem va_byt (it : Int) (u fa fb : Nat) (b off : Nat) (bn bc : Nat) (bs : List UInt8) (w : World) (hl : bs.length = bn) (hb : b < w.heap.size) (h : ∀ (i : Nat) (x : UInt8), bs[i]? = some x → w.cell? ⟨b, off + i, none⟩ = some (.int .u8 (x.toNat : Int))) (hbn : bn ≤ 2147483647) :
    Calls Tryd.prog 37 #[.agg #[.int .i64 16, .int .i64 it, .int .u64 (u : Int), .int .u64 (fa : Int), .int .u64 (fb : Int), .slice (some ⟨b, off, none⟩) bn bc]] w fun e w' => (∃ a c, e = .returned (.iface 27 (.slice a bn c)) ∧ bn ≤ c ∧ c ≤ 9223372036854775807 ∧ rdB5 w'.heap.size w' a bn bs) ∧ Below w.heap.size w w' := by
  have hfb := run_frombits
  obtain ⟨i0, hi, hz0, hz1, hz2⟩ := info_parts info5
  have HH := Lib.hid h
  have HL := Lib.hid hl
  clear h hl
  go_enter Tryd.func37, Tryd.ntmps37
  go_wp2_with fail
  go_quiet (fail)
  go_wp2_with (at_builtin; refine wpList_append_own _ rfl (.tmp 99) (.tmp 101) 27 rfl (w.heap.size + 1) 5 i0 _ 1 1 Tryd.underlying27 hi hz0 hz1 hz2 rfl (by decide) (.slice (some ⟨w.heap.size + 1, 0, none⟩) 0 0) 0 [] rfl ?own ⟨b, off, none⟩ bn bc (bs.map fun x => Value.int .u8 (x.toNat : Int)) rfl ?cl ?c1 ?c2 ?c3 ?c4 ?c5 ?_)
  case own =>
    have hm := World.ownsRow_made (base := w.heap.size + 1) (e := 5) (size := 1) ((w.alloc (.cells #[.int .i64 16, .int .i64 it, .int .u64 (u : Int), .int .u64 (fa : Int), .int .u64 (fb : Int), .slice (some ⟨b, off, none⟩) bn bc] 34)).drewN nq) #[] 0 (by show _ ≤ (w.alloc _).heap.size; simp) (by decide) (by simp)
    rw [show ((w.alloc (.cells #[.int .i64 16, .int .i64 it, .int .u64 (u : Int), .int .u64 (fa : Int), .int .u64 (fb : Int), .slice (some ⟨b, off, none⟩) bn bc] 34)).drewN nq).heap.size = w.heap.size + 1 from by show (w.alloc _).heap.size = _; simp] at hm
    exact hm
  case cl => rw [List.length_map, HL.out]; simp
  case c1 =>
    intro j v hv
    rw [List.getElem?_map] at hv
    cases hx : bs[j]? with
    | none => rw [hx] at hv; cases hv
    | some x =>
      rw [hx] at hv
      simp only [Option.map_some, Option.some.injEq] at hv
      subst hv
      rw [Addr.add_lit]
      have B1 : Below w.heap.size w (((w.alloc (.cells #[.int .i64 16, .int .i64 it, .int .u64 (u : Int), .int .u64 (fa : Int), .int .u64 (fb : Int), .slice (some ⟨b, off, none⟩) bn bc] 34)).drewN nq).alloc (.cells #[] 5)) := (below_drewN (below1 _ _) _).alloc (by show _ ≤ (w.alloc _).heap.size; simp) _
      exact (B1.cell (p := ⟨b, off + j, none⟩) hb).trans (HH.out j x hx)
  case c2 => intro v hv; rw [List.mem_map] at hv; obtain ⟨x, -, rfl⟩ := hv; rfl
  case c3 => unfold maxLen; omega
  case c4 => omega
  case c5 => show _ ≤ ((w.alloc _).alloc _).heap.size; simp
  intro v' w1 hown hgrow _
  have B1 := ((below_drewN (below1 w (.cells #[.int .i64 16, .int .i64 it, .int .u64 (u : Int), .int .u64 (fa : Int), .int .u64 (fb : Int), .slice (some ⟨b, off, none⟩) bn bc] 34)) nq).alloc (by show _ ≤ (w.alloc _).heap.size; simp) (.cells #[] 5)).grown hgrow (by show _ ≤ ((w.alloc _).alloc _).heap.size; simp; omega) (fun k hk => by simp [Value.ownBlock] at hk; omega)
  obtain ⟨a', c', rfl, h1, h2, h3⟩ := owns_rdB HL.out hown
  have H3 := Lib.hid h3
  clear h3 hown hgrow
  go_wp2_with fail
  go_ret
  exact ⟨⟨a', c', rfl, h1, h2, H3.out⟩, B1⟩


/-- what bad2 shuts out -/
theorem shift_in {it : Int} {d : Nat} (h : wrap64 (it * 2 ^ d) / 2 ^ d = it) (hd : d = 56 ∨ d = 48 ∨ d = 32) : -(2 ^ (63 - d) : Int) ≤ it ∧ it < 2 ^ (63 - d) := by
  unfold wrap64 at h
  rcases hd with rfl | rfl | rfl <;> omega
theorem ushift_in {u : Nat} {d : Nat} (h : IntKind.u64.wrap ((u : Int) * 2 ^ d) / 2 ^ d = (u : Int)) (hd : d = 56 ∨ d = 48 ∨ d = 32) : u < 2 ^ (64 - d) := by
  rw [IntKind.wrap_u64] at h
  rcases hd with rfl | rfl | rfl <;> omega

end Go.Proofs.YtaoonpncnahhgaaDoor
