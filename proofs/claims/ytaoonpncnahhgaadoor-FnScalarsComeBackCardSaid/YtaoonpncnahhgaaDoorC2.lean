/-
  The type assertions to the kinds of scalars, as they run.
-/
import Derived.Test.YtaoonpncnahhgaaDoorC1
import Derived.Laws.ComplexArith
namespace Go.Proofs.YtaoonpncnahhgaaDoor
open Go.RowKit

theorem zeroT4 (w : World) : (zeroValue 4).run Tryd.prog w = .ok (.bool false) w := by kernel_rfl
@[go_sem] theorem ta_hit4 (v : Value) (w : World) : (Instr.typeAssert (.iface 4 v) 20 4 true).run Tryd.prog w = .ok (.tuple #[v, .bool true]) w := by
  unfold Instr.typeAssert; simp [run_underlying Tryd.underlying4]
@[go_sem] theorem ta_miss4 (T : TypeId) (v : Value) (w : World) (h : T ≠ 4) : (Instr.typeAssert (.iface T v) 20 4 true).run Tryd.prog w = .ok (.tuple #[.bool false, .bool false]) w := by
  unfold Instr.typeAssert; simp [run_underlying Tryd.underlying4, h]
@[go_sem] theorem ta_nil4 (w : World) : (Instr.typeAssert .nilIface 20 4 true).run Tryd.prog w = .ok (.tuple #[.bool false, .bool false]) w := by
  unfold Instr.typeAssert; simp [run_underlying Tryd.underlying4]
theorem zeroT83 (w : World) : (zeroValue 83).run Tryd.prog w = .ok (.int .i8 0) w := by kernel_rfl
@[go_sem] theorem ta_hit83 (v : Value) (w : World) : (Instr.typeAssert (.iface 83 v) 20 83 true).run Tryd.prog w = .ok (.tuple #[v, .bool true]) w := by
  unfold Instr.typeAssert; simp [run_underlying Tryd.underlying83]
@[go_sem] theorem ta_miss83 (T : TypeId) (v : Value) (w : World) (h : T ≠ 83) : (Instr.typeAssert (.iface T v) 20 83 true).run Tryd.prog w = .ok (.tuple #[.int .i8 0, .bool false]) w := by
  unfold Instr.typeAssert; simp [run_underlying Tryd.underlying83, h]
@[go_sem] theorem ta_nil83 (w : World) : (Instr.typeAssert .nilIface 20 83 true).run Tryd.prog w = .ok (.tuple #[.int .i8 0, .bool false]) w := by
  unfold Instr.typeAssert; simp [run_underlying Tryd.underlying83]
theorem zeroT85 (w : World) : (zeroValue 85).run Tryd.prog w = .ok (.int .i16 0) w := by kernel_rfl
@[go_sem] theorem ta_hit85 (v : Value) (w : World) : (Instr.typeAssert (.iface 85 v) 20 85 true).run Tryd.prog w = .ok (.tuple #[v, .bool true]) w := by
  unfold Instr.typeAssert; simp [run_underlying Tryd.underlying85]
@[go_sem] theorem ta_miss85 (T : TypeId) (v : Value) (w : World) (h : T ≠ 85) : (Instr.typeAssert (.iface T v) 20 85 true).run Tryd.prog w = .ok (.tuple #[.int .i16 0, .bool false]) w := by
  unfold Instr.typeAssert; simp [run_underlying Tryd.underlying85, h]
@[go_sem] theorem ta_nil85 (w : World) : (Instr.typeAssert .nilIface 20 85 true).run Tryd.prog w = .ok (.tuple #[.int .i16 0, .bool false]) w := by
  unfold Instr.typeAssert; simp [run_underlying Tryd.underlying85]
theorem zeroT21 (w : World) : (zeroValue 21).run Tryd.prog w = .ok (.int .i32 0) w := by kernel_rfl
@[go_sem] theorem ta_hit21 (v : Value) (w : World) : (Instr.typeAssert (.iface 21 v) 20 21 true).run Tryd.prog w = .ok (.tuple #[v, .bool true]) w := by
  unfold Instr.typeAssert; simp [run_underlying Tryd.underlying21]
@[go_sem] theorem ta_miss21 (T : TypeId) (v : Value) (w : World) (h : T ≠ 21) : (Instr.typeAssert (.iface T v) 20 21 true).run Tryd.prog w = .ok (.tuple #[.int .i32 0, .bool false]) w := by
  unfold Instr.typeAssert; simp [run_underlying Tryd.underlying21, h]
@[go_sem] theorem ta_nil21 (w : World) : (Instr.typeAssert .nilIface 20 21 true).run Tryd.prog w = .ok (.tuple #[.int .i32 0, .bool false]) w := by
  unfold Instr.typeAssert; simp [run_underlying Tryd.underlying21]
theorem zeroT2 (w : World) : (zeroValue 2).run Tryd.prog w = .ok (.int .i64 0) w := by kernel_rfl
@[go_sem] theorem ta_hit2 (v : Value) (w : World) : (Instr.typeAssert (.iface 2 v) 20 2 true).run Tryd.prog w = .ok (.tuple #[v, .bool true]) w := by
  unfold Instr.typeAssert; simp [run_underlying Tryd.underlying2]
@[go_sem] theorem ta_miss2 (T : TypeId) (v : Value) (w : World) (h : T ≠ 2) : (Instr.typeAssert (.iface T v) 20 2 true).run Tryd.prog w = .ok (.tuple #[.int .i64 0, .bool false]) w := by
  unfold Instr.typeAssert; simp [run_underlying Tryd.underlying2, h]
@[go_sem] theorem ta_nil2 (w : World) : (Instr.typeAssert .nilIface 20 2 true).run Tryd.prog w = .ok (.tuple #[.int .i64 0, .bool false]) w := by
  unfold Instr.typeAssert; simp [run_underlying Tryd.underlying2]
theorem zeroT3 (w : World) : (zeroValue 3).run Tryd.prog w = .ok (.int .i64 0) w := by kernel_rfl
@[go_sem] theorem ta_hit3 (v : Value) (w : World) : (Instr.typeAssert (.iface 3 v) 20 3 true).run Tryd.prog w = .ok (.tuple #[v, .bool true]) w := by
  unfold Instr.typeAssert; simp [run_underlying Tryd.underlying3]
@[go_sem] theorem ta_miss3 (T : TypeId) (v : Value) (w : World) (h : T ≠ 3) : (Instr.typeAssert (.iface T v) 20 3 true).run Tryd.prog w = .ok (.tuple #[.int .i64 0, .bool false]) w := by
  unfold Instr.typeAssert; simp [run_underlying Tryd.underlying3, h]
@[go_sem] theorem ta_nil3 (w : World) : (Instr.typeAssert .nilIface 20 3 true).run Tryd.prog w = .ok (.tuple #[.int .i64 0, .bool false]) w := by
  unfold Instr.typeAssert; simp [run_underlying Tryd.underlying3]
theorem zeroT5 (w : World) : (zeroValue 5).run Tryd.prog w = .ok (.int .u8 0) w := by kernel_rfl
@[go_sem] theorem ta_hit5 (v : Value) (w : World) : (Instr.typeAssert (.iface 5 v) 20 5 true).run Tryd.prog w = .ok (.tuple #[v, .bool true]) w := by
  unfold Instr.typeAssert; simp [run_underlying Tryd.underlying5]
@[go_sem] theorem ta_miss5 (T : TypeId) (v : Value) (w : World) (h : T ≠ 5) : (Instr.typeAssert (.iface T v) 20 5 true).run Tryd.prog w = .ok (.tuple #[.int .u8 0, .bool false]) w := by
  unfold Instr.typeAssert; simp [run_underlying Tryd.underlying5, h]
@[go_sem] theorem ta_nil5 (w : World) : (Instr.typeAssert .nilIface 20 5 true).run Tryd.prog w = .ok (.tuple #[.int .u8 0, .bool false]) w := by
  unfold Instr.typeAssert; simp [run_underlying Tryd.underlying5]
theorem zeroT86 (w : World) : (zeroValue 86).run Tryd.prog w = .ok (.int .u16 0) w := by kernel_rfl
@[go_sem] theorem ta_hit86 (v : Value) (w : World) : (Instr.typeAssert (.iface 86 v) 20 86 true).run Tryd.prog w = .ok (.tuple #[v, .bool true]) w := by
  unfold Instr.typeAssert; simp [run_underlying Tryd.underlying86]
@[go_sem] theorem ta_miss86 (T : TypeId) (v : Value) (w : World) (h : T ≠ 86) : (Instr.typeAssert (.iface T v) 20 86 true).run Tryd.prog w = .ok (.tuple #[.int .u16 0, .bool false]) w := by
  unfold Instr.typeAssert; simp [run_underlying Tryd.underlying86, h]
@[go_sem] theorem ta_nil86 (w : World) : (Instr.typeAssert .nilIface 20 86 true).run Tryd.prog w = .ok (.tuple #[.int .u16 0, .bool false]) w := by
  unfold Instr.typeAssert; simp [run_underlying Tryd.underlying86]
theorem zeroT87 (w : World) : (zeroValue 87).run Tryd.prog w = .ok (.int .u32 0) w := by kernel_rfl
@[go_sem] theorem ta_hit87 (v : Value) (w : World) : (Instr.typeAssert (.iface 87 v) 20 87 true).run Tryd.prog w = .ok (.tuple #[v, .bool true]) w := by
  unfold Instr.typeAssert; simp [run_underlying Tryd.underlying87]
@[go_sem] theorem ta_miss87 (T : TypeId) (v : Value) (w : World) (h : T ≠ 87) : (Instr.typeAssert (.iface T v) 20 87 true).run Tryd.prog w = .ok (.tuple #[.int .u32 0, .bool false]) w := by
  unfold Instr.typeAssert; simp [run_underlying Tryd.underlying87, h]
@[go_sem] theorem ta_nil87 (w : World) : (Instr.typeAssert .nilIface 20 87 true).run Tryd.prog w = .ok (.tuple #[.int .u32 0, .bool false]) w := by
  unfold Instr.typeAssert; simp [run_underlying Tryd.underlying87]
theorem zeroT32 (w : World) : (zeroValue 32).run Tryd.prog w = .ok (.int .u64 0) w := by kernel_rfl
@[go_sem] theorem ta_hit32 (v : Value) (w : World) : (Instr.typeAssert (.iface 32 v) 20 32 true).run Tryd.prog w = .ok (.tuple #[v, .bool true]) w := by
  unfold Instr.typeAssert; simp [run_underlying Tryd.underlying32]
@[go_sem] theorem ta_miss32 (T : TypeId) (v : Value) (w : World) (h : T ≠ 32) : (Instr.typeAssert (.iface T v) 20 32 true).run Tryd.prog w = .ok (.tuple #[.int .u64 0, .bool false]) w := by
  unfold Instr.typeAssert; simp [run_underlying Tryd.underlying32, h]
@[go_sem] theorem ta_nil32 (w : World) : (Instr.typeAssert .nilIface 20 32 true).run Tryd.prog w = .ok (.tuple #[.int .u64 0, .bool false]) w := by
  unfold Instr.typeAssert; simp [run_underlying Tryd.underlying32]
theorem zeroT70 (w : World) : (zeroValue 70).run Tryd.prog w = .ok (.int .u64 0) w := by kernel_rfl
@[go_sem] theorem ta_hit70 (v : Value) (w : World) : (Instr.typeAssert (.iface 70 v) 20 70 true).run Tryd.prog w = .ok (.tuple #[v, .bool true]) w := by
  unfold Instr.typeAssert; simp [run_underlying Tryd.underlying70]
@[go_sem] theorem ta_miss70 (T : TypeId) (v : Value) (w : World) (h : T ≠ 70) : (Instr.typeAssert (.iface T v) 20 70 true).run Tryd.prog w = .ok (.tuple #[.int .u64 0, .bool false]) w := by
  unfold Instr.typeAssert; simp [run_underlying Tryd.underlying70, h]
@[go_sem] theorem ta_nil70 (w : World) : (Instr.typeAssert .nilIface 20 70 true).run Tryd.prog w = .ok (.tuple #[.int .u64 0, .bool false]) w := by
  unfold Instr.typeAssert; simp [run_underlying Tryd.underlying70]
theorem zeroT74 (w : World) : (zeroValue 74).run Tryd.prog w = .ok (.float .f32 0) w := by kernel_rfl
@[go_sem] theorem ta_hit74 (v : Value) (w : World) : (Instr.typeAssert (.iface 74 v) 20 74 true).run Tryd.prog w = .ok (.tuple #[v, .bool true]) w := by
  unfold Instr.typeAssert; simp [run_underlying Tryd.underlying74]
@[go_sem] theorem ta_miss74 (T : TypeId) (v : Value) (w : World) (h : T ≠ 74) : (Instr.typeAssert (.iface T v) 20 74 true).run Tryd.prog w = .ok (.tuple #[.float .f32 0, .bool false]) w := by
  unfold Instr.typeAssert; simp [run_underlying Tryd.underlying74, h]
@[go_sem] theorem ta_nil74 (w : World) : (Instr.typeAssert .nilIface 20 74 true).run Tryd.prog w = .ok (.tuple #[.float .f32 0, .bool false]) w := by
  unfold Instr.typeAssert; simp [run_underlying Tryd.underlying74]
theorem zeroT76 (w : World) : (zeroValue 76).run Tryd.prog w = .ok (.float .f64 0) w := by kernel_rfl
@[go_sem] theorem ta_hit76 (v : Value) (w : World) : (Instr.typeAssert (.iface 76 v) 20 76 true).run Tryd.prog w = .ok (.tuple #[v, .bool true]) w := by
  unfold Instr.typeAssert; simp [run_underlying Tryd.underlying76]
@[go_sem] theorem ta_miss76 (T : TypeId) (v : Value) (w : World) (h : T ≠ 76) : (Instr.typeAssert (.iface T v) 20 76 true).run Tryd.prog w = .ok (.tuple #[.float .f64 0, .bool false]) w := by
  unfold Instr.typeAssert; simp [run_underlying Tryd.underlying76, h]
@[go_sem] theorem ta_nil76 (w : World) : (Instr.typeAssert .nilIface 20 76 true).run Tryd.prog w = .ok (.tuple #[.float .f64 0, .bool false]) w := by
  unfold Instr.typeAssert; simp [run_underlying Tryd.underlying76]
theorem zeroT78 (w : World) : (zeroValue 78).run Tryd.prog w = .ok (.complex .f32 0 0) w := by kernel_rfl
@[go_sem] theorem ta_hit78 (v : Value) (w : World) : (Instr.typeAssert (.iface 78 v) 20 78 true).run Tryd.prog w = .ok (.tuple #[v, .bool true]) w := by
  unfold Instr.typeAssert; simp [run_underlying Tryd.underlying78]
@[go_sem] theorem ta_miss78 (T : TypeId) (v : Value) (w : World) (h : T ≠ 78) : (Instr.typeAssert (.iface T v) 20 78 true).run Tryd.prog w = .ok (.tuple #[.complex .f32 0 0, .bool false]) w := by
  unfold Instr.typeAssert; simp [run_underlying Tryd.underlying78, h]
@[go_sem] theorem ta_nil78 (w : World) : (Instr.typeAssert .nilIface 20 78 true).run Tryd.prog w = .ok (.tuple #[.complex .f32 0 0, .bool false]) w := by
  unfold Instr.typeAssert; simp [run_underlying Tryd.underlying78]
theorem zeroT80 (w : World) : (zeroValue 80).run Tryd.prog w = .ok (.complex .f64 0 0) w := by kernel_rfl
@[go_sem] theorem ta_hit80 (v : Value) (w : World) : (Instr.typeAssert (.iface 80 v) 20 80 true).run Tryd.prog w = .ok (.tuple #[v, .bool true]) w := by
  unfold Instr.typeAssert; simp [run_underlying Tryd.underlying80]
@[go_sem] theorem ta_miss80 (T : TypeId) (v : Value) (w : World) (h : T ≠ 80) : (Instr.typeAssert (.iface T v) 20 80 true).run Tryd.prog w = .ok (.tuple #[.complex .f64 0 0, .bool false]) w := by
  unfold Instr.typeAssert; simp [run_underlying Tryd.underlying80, h]
@[go_sem] theorem ta_nil80 (w : World) : (Instr.typeAssert .nilIface 20 80 true).run Tryd.prog w = .ok (.tuple #[.complex .f64 0 0, .bool false]) w := by
  unfold Instr.typeAssert; simp [run_underlying Tryd.underlying80]
theorem zeroT27 (w : World) : (zeroValue 27).run Tryd.prog w = .ok (.slice none 0 0) w := by kernel_rfl
@[go_sem] theorem ta_hit27 (v : Value) (w : World) : (Instr.typeAssert (.iface 27 v) 20 27 true).run Tryd.prog w = .ok (.tuple #[v, .bool true]) w := by
  unfold Instr.typeAssert; simp [run_underlying Tryd.underlying27]
@[go_sem] theorem ta_miss27 (T : TypeId) (v : Value) (w : World) (h : T ≠ 27) : (Instr.typeAssert (.iface T v) 20 27 true).run Tryd.prog w = .ok (.tuple #[.slice none 0 0, .bool false]) w := by
  unfold Instr.typeAssert; simp [run_underlying Tryd.underlying27, h]
@[go_sem] theorem ta_nil27 (w : World) : (Instr.typeAssert .nilIface 20 27 true).run Tryd.prog w = .ok (.tuple #[.slice none 0 0, .bool false]) w := by
  unfold Instr.typeAssert; simp [run_underlying Tryd.underlying27]
theorem zeroT9 (w : World) : (zeroValue 9).run Tryd.prog w = .ok (.string ⟨#[]⟩) w := by kernel_rfl
@[go_sem] theorem ta_hit9 (v : Value) (w : World) : (Instr.typeAssert (.iface 9 v) 20 9 true).run Tryd.prog w = .ok (.tuple #[v, .bool true]) w := by
  unfold Instr.typeAssert; simp [run_underlying Tryd.underlying9]
@[go_sem] theorem ta_miss9 (T : TypeId) (v : Value) (w : World) (h : T ≠ 9) : (Instr.typeAssert (.iface T v) 20 9 true).run Tryd.prog w = .ok (.tuple #[.string ⟨#[]⟩, .bool false]) w := by
  unfold Instr.typeAssert; simp [run_underlying Tryd.underlying9, h]
@[go_sem] theorem ta_nil9 (w : World) : (Instr.typeAssert .nilIface 20 9 true).run Tryd.prog w = .ok (.tuple #[.string ⟨#[]⟩, .bool false]) w := by
  unfold Instr.typeAssert; simp [run_underlying Tryd.underlying9]

/-- a value of an interface type, as the package takes it apart -/
inductive AV where
  | nil
  | bool (b : Bool)
  | i8 (n : Int) | i16 (n : Int) | i32 (n : Int) | int (n : Int) | i64 (n : Int)
  | u8 (n : Nat) | u16 (n : Nat) | u32 (n : Nat) | uint (n : Nat) | u64 (n : Nat)
  | f32 (x r : Nat) | f64 (x : Nat) | c64 (x y r s : Nat) | c128 (x y : Nat)
  | byt (bs : List UInt8) | str (bs : List UInt8)

/-- what it is as a value, bytes but -/
def AV.v : AV → Value
  | .nil => .nilIface
  | .bool b => .iface 4 (.bool b)
  | .i8 n => .iface 83 (.int .i8 n) | .i16 n => .iface 85 (.int .i16 n) | .i32 n => .iface 21 (.int .i32 n) | .int n => .iface 3 (.int .i64 n) | .i64 n => .iface 2 (.int .i64 n)
  | .u8 n => .iface 5 (.int .u8 (n : Int)) | .u16 n => .iface 86 (.int .u16 (n : Int)) | .u32 n => .iface 87 (.int .u32 (n : Int)) | .uint n => .iface 70 (.int .u64 (n : Int)) | .u64 n => .iface 32 (.int .u64 (n : Int))
  | .f32 x _ => .iface 74 (.float .f32 x) | .f64 x => .iface 76 (.float .f64 x) | .c64 x y _ _ => .iface 78 (.complex .f32 x y) | .c128 x y => .iface 80 (.complex .f64 x y)
  | .byt _ => .nilIface
  | .str bs => .iface 9 (.string ⟨bs.toArray⟩)

/-- a slice of bytes in a block of bytes reads as a list -/
def rdB5 (B : Nat) (w : World) (a : Option Addr) (n : Nat) (bs : List UInt8) : Prop :=
  rdB B w a n bs ∧ (bs = [] ∨ ∃ b o cur fr, a = some ⟨b, o, none⟩ ∧ b < w.heap.size ∧ w.heap[b]? = some (.cells cur 5 fr))
/-- a value in memory is this one -/
def avIs (B : Nat) (w : World) (x : AV) (v : Value) : Prop :=
  match x with
  | .byt bs => ∃ a n c, v = .iface 27 (.slice a n c) ∧ n ≤ c ∧ c ≤ 9223372036854775807 ∧ rdB5 B w a n bs
  | x => v = x.v

/-- its numbers are of their kinds -/
def AV.wf : AV → Prop
  | .i8 n => -128 ≤ n ∧ n ≤ 127 | .i16 n => -32768 ≤ n ∧ n ≤ 32767 | .i32 n => -2147483648 ≤ n ∧ n ≤ 2147483647 | .int n | .i64 n => -9223372036854775808 ≤ n ∧ n ≤ 9223372036854775807
  | .u8 n => n < 256 | .u16 n => n < 65536 | .u32 n => n < 4294967296 | .uint n | .u64 n => n < 18446744073709551616
  | .f32 x r => floatToFloatBits .f32 x .f64 = some r
  | .c64 x y r s => floatToFloatBits .f32 x .f64 = some r ∧ floatToFloatBits .f32 y .f64 = some s
  | _ => True

/-- what the package makes of it ahead of an order -/
def ctOf : AV → AV
  | .i8 n | .i16 n | .i32 n | .int n | .i64 n => .i64 n
  | .u8 n | .u16 n | .u32 n | .uint n | .u64 n => .u64 n
  | .f32 _ r => .f64 r
  | .c64 _ _ r s => .c128 r s
  | x => x

set_option maxRecDepth 100000 in
theorem ct_nil  (w : World) : Calls Tryd.prog 42 #[.nilIface] w fun e w' => e = .returned (.tuple #[.nilIface, .nilIface]) ∧ w' = w := by
  go_enter Tryd.func42, Tryd.ntmps42
  go_wp2_with fail
  go_ret2
  exact ⟨rfl, rfl⟩
set_option maxRecDepth 100000 in
theorem ct_bool (b : Bool) (w : World) : Calls Tryd.prog 42 #[.iface 4 (.bool b)] w fun e w' => e = .returned (.tuple #[.iface 4 (.bool b), .nilIface]) ∧ w' = w := by
  go_enter Tryd.func42, Tryd.ntmps42
  go_wp2_with fail
  go_ret2
  exact ⟨rfl, rfl⟩
set_option maxRecDepth 100000 in
theorem ct_i8 (n : Int) (w : World) (h0 : -128 ≤ n) (h1 : n ≤ 127) : Calls Tryd.prog 42 #[.iface 83 (.int .i8 n)] w fun e w' => e = .returned (.tuple #[.iface 2 (.int .i64 n), .nilIface]) ∧ w' = w := by
  go_enter Tryd.func42, Tryd.ntmps42
  go_wp2_with fail
  go_ret2
  exact ⟨rfl, rfl⟩
set_option maxRecDepth 100000 in
theorem ct_i16 (n : Int) (w : World) (h0 : -32768 ≤ n) (h1 : n ≤ 32767) : Calls Tryd.prog 42 #[.iface 85 (.int .i16 n)] w fun e w' => e = .returned (.tuple #[.iface 2 (.int .i64 n), .nilIface]) ∧ w' = w := by
  go_enter Tryd.func42, Tryd.ntmps42
  go_wp2_with fail
  go_ret2
  exact ⟨rfl, rfl⟩
set_option maxRecDepth 100000 in
theorem ct_i32 (n : Int) (w : World) (h0 : -2147483648 ≤ n) (h1 : n ≤ 2147483647) : Calls Tryd.prog 42 #[.iface 21 (.int .i32 n)] w fun e w' => e = .returned (.tuple #[.iface 2 (.int .i64 n), .nilIface]) ∧ w' = w := by
  go_enter Tryd.func42, Tryd.ntmps42
  go_wp2_with fail
  go_ret2
  exact ⟨rfl, rfl⟩
set_option maxRecDepth 100000 in
theorem ct_int (n : Int) (w : World) (_h0 : -9223372036854775808 ≤ n) (_h1 : n ≤ 9223372036854775807) : Calls Tryd.prog 42 #[.iface 3 (.int .i64 n)] w fun e w' => e = .returned (.tuple #[.iface 2 (.int .i64 n), .nilIface]) ∧ w' = w := by
  go_enter Tryd.func42, Tryd.ntmps42
  go_wp2_with fail
  go_ret2
  exact ⟨rfl, rfl⟩
set_option maxRecDepth 100000 in
theorem ct_i64 (n : Int) (w : World) (_h0 : -9223372036854775808 ≤ n) (_h1 : n ≤ 9223372036854775807) : Calls Tryd.prog 42 #[.iface 2 (.int .i64 n)] w fun e w' => e = .returned (.tuple #[.iface 2 (.int .i64 n), .nilIface]) ∧ w' = w := by
  go_enter Tryd.func42, Tryd.ntmps42
  go_wp2_with fail
  go_ret2
  exact ⟨rfl, rfl⟩
set_option maxRecDepth 100000 in
theorem ct_u8 (n : Nat) (w : World) (h1 : n < 256) : Calls Tryd.prog 42 #[.iface 5 (.int .u8 (n : Int))] w fun e w' => e = .returned (.tuple #[.iface 32 (.int .u64 (n : Int)), .nilIface]) ∧ w' = w := by
  go_enter Tryd.func42, Tryd.ntmps42
  go_wp2_with fail
  go_ret2
  exact ⟨rfl, rfl⟩
set_option maxRecDepth 100000 in
theorem ct_u16 (n : Nat) (w : World) (h1 : n < 65536) : Calls Tryd.prog 42 #[.iface 86 (.int .u16 (n : Int))] w fun e w' => e = .returned (.tuple #[.iface 32 (.int .u64 (n : Int)), .nilIface]) ∧ w' = w := by
  go_enter Tryd.func42, Tryd.ntmps42
  go_wp2_with fail
  go_ret2
  exact ⟨rfl, rfl⟩
set_option maxRecDepth 100000 in
theorem ct_u32 (n : Nat) (w : World) (h1 : n < 4294967296) : Calls Tryd.prog 42 #[.iface 87 (.int .u32 (n : Int))] w fun e w' => e = .returned (.tuple #[.iface 32 (.int .u64 (n : Int)), .nilIface]) ∧ w' = w := by
  go_enter Tryd.func42, Tryd.ntmps42
  go_wp2_with fail
  go_ret2
  exact ⟨rfl, rfl⟩
set_option maxRecDepth 100000 in
theorem ct_uint (n : Nat) (w : World) (_h1 : n < 18446744073709551616) : Calls Tryd.prog 42 #[.iface 70 (.int .u64 (n : Int))] w fun e w' => e = .returned (.tuple #[.iface 32 (.int .u64 (n : Int)), .nilIface]) ∧ w' = w := by
  go_enter Tryd.func42, Tryd.ntmps42
  go_wp2_with fail
  go_ret2
  exact ⟨rfl, rfl⟩
set_option maxRecDepth 100000 in
theorem ct_u64 (n : Nat) (w : World) (_h1 : n < 18446744073709551616) : Calls Tryd.prog 42 #[.iface 32 (.int .u64 (n : Int))] w fun e w' => e = .returned (.tuple #[.iface 32 (.int .u64 (n : Int)), .nilIface]) ∧ w' = w := by
  go_enter Tryd.func42, Tryd.ntmps42
  go_wp2_with fail
  go_ret2
  exact ⟨rfl, rfl⟩
set_option maxRecDepth 100000 in
theorem ct_f32 (x r : Nat) (w : World) (h : floatToFloatBits .f32 x .f64 = some r) : Calls Tryd.prog 42 #[.iface 74 (.float .f32 x)] w fun e w' => e = .returned (.tuple #[.iface 76 (.float .f64 r), .nilIface]) ∧ w' = w := by
  have hr := fun w => run_convert_float_float (P := Tryd.prog) w 74 76 .f32 .f64 x r (by rw [Tryd.underlying74]; rfl) Tryd.underlying76 h
  clear h
  go_enter Tryd.func42, Tryd.ntmps42
  go_wp2_with fail
  go_ret2
  exact ⟨rfl, rfl⟩
set_option maxRecDepth 100000 in
theorem ct_f64 (x : Nat) (w : World) : Calls Tryd.prog 42 #[.iface 76 (.float .f64 x)] w fun e w' => e = .returned (.tuple #[.iface 76 (.float .f64 x), .nilIface]) ∧ w' = w := by
  go_enter Tryd.func42, Tryd.ntmps42
  go_wp2_with fail
  go_ret2
  exact ⟨rfl, rfl⟩
set_option maxRecDepth 100000 in
theorem ct_c64 (x y r s : Nat) (w : World) (h : floatToFloatBits .f32 x .f64 = some r) (h2 : floatToFloatBits .f32 y .f64 = some s) : Calls Tryd.prog 42 #[.iface 78 (.complex .f32 x y)] w fun e w' => e = .returned (.tuple #[.iface 80 (.complex .f64 r s), .nilIface]) ∧ w' = w := by
  have hr := fun w => run_convert_complex (P := Tryd.prog) w 78 80 .f32 .f64 x y r s (by rw [Tryd.underlying78]; rfl) Tryd.underlying80 (by unfold cConvBits; rw [h, h2]; rfl)
  clear h h2
  go_enter Tryd.func42, Tryd.ntmps42
  go_wp2_with fail
  go_ret2
  exact ⟨rfl, rfl⟩
set_option maxRecDepth 100000 in
theorem ct_c128 (x y : Nat) (w : World) : Calls Tryd.prog 42 #[.iface 80 (.complex .f64 x y)] w fun e w' => e = .returned (.tuple #[.iface 80 (.complex .f64 x y), .nilIface]) ∧ w' = w := by
  go_enter Tryd.func42, Tryd.ntmps42
  go_wp2_with fail
  go_ret2
  exact ⟨rfl, rfl⟩
set_option maxRecDepth 100000 in
theorem ct_byt (a : Option Addr) (n c : Nat) (w : World) : Calls Tryd.prog 42 #[.iface 27 (.slice a n c)] w fun e w' => e = .returned (.tuple #[.iface 27 (.slice a n c), .nilIface]) ∧ w' = w := by
  go_enter Tryd.func42, Tryd.ntmps42
  go_wp2_with fail
  go_ret2
  exact ⟨rfl, rfl⟩
set_option maxRecDepth 100000 in
theorem ct_str (s : ByteArray) (w : World) : Calls Tryd.prog 42 #[.iface 9 (.string s)] w fun e w' => e = .returned (.tuple #[.iface 9 (.string s), .nilIface]) ∧ w' = w := by
  go_enter Tryd.func42, Tryd.ntmps42
  go_wp2_with fail
  go_ret2
  exact ⟨rfl, rfl⟩

theorem ct_any (B : Nat) (x : AV) (v : Value) (w : World) (hx : x.wf) (h : avIs B w x v) :
    Calls Tryd.prog 42 #[v] w fun e w' => (∃ u, e = .returned (.tuple #[u, .nilIface]) ∧ avIs B w (ctOf x) u) ∧ w' = w := by
  cases x with
  | byt bs =>
    obtain ⟨a, n, c, rfl, h1⟩ := h
    exact (ct_byt a n c w).mono fun e w' ⟨h2, h3⟩ => ⟨⟨_, h2, a, n, c, rfl, h1⟩, h3⟩
  | nil => subst h; exact (ct_nil w).mono fun e w' ⟨h2, h3⟩ => ⟨⟨_, h2, rfl⟩, h3⟩
  | bool b => subst h; exact (ct_bool b w).mono fun e w' ⟨h2, h3⟩ => ⟨⟨_, h2, rfl⟩, h3⟩
  | i8 n => subst h; exact (ct_i8 n w hx.1 hx.2).mono fun e w' ⟨h2, h3⟩ => ⟨⟨_, h2, rfl⟩, h3⟩
  | i16 n => subst h; exact (ct_i16 n w hx.1 hx.2).mono fun e w' ⟨h2, h3⟩ => ⟨⟨_, h2, rfl⟩, h3⟩
  | i32 n => subst h; exact (ct_i32 n w hx.1 hx.2).mono fun e w' ⟨h2, h3⟩ => ⟨⟨_, h2, rfl⟩, h3⟩
  | int n => subst h; exact (ct_int n w hx.1 hx.2).mono fun e w' ⟨h2, h3⟩ => ⟨⟨_, h2, rfl⟩, h3⟩
  | i64 n => subst h; exact (ct_i64 n w hx.1 hx.2).mono fun e w' ⟨h2, h3⟩ => ⟨⟨_, h2, rfl⟩, h3⟩
  | u8 n => subst h; exact (ct_u8 n w hx).mono fun e w' ⟨h2, h3⟩ => ⟨⟨_, h2, rfl⟩, h3⟩
  | u16 n => subst h; exact (ct_u16 n w hx).mono fun e w' ⟨h2, h3⟩ => ⟨⟨_, h2, rfl⟩, h3⟩
  | u32 n => subst h; exact (ct_u32 n w hx).mono fun e w' ⟨h2, h3⟩ => ⟨⟨_, h2, rfl⟩, h3⟩
  | uint n => subst h; exact (ct_uint n w hx).mono fun e w' ⟨h2, h3⟩ => ⟨⟨_, h2, rfl⟩, h3⟩
  | u64 n => subst h; exact (ct_u64 n w hx).mono fun e w' ⟨h2, h3⟩ => ⟨⟨_, h2, rfl⟩, h3⟩
  | f32 y r => subst h; exact (ct_f32 y r w hx).mono fun e w' ⟨h2, h3⟩ => ⟨⟨_, h2, rfl⟩, h3⟩
  | f64 y => subst h; exact (ct_f64 y w).mono fun e w' ⟨h2, h3⟩ => ⟨⟨_, h2, rfl⟩, h3⟩
  | c64 y z r s => subst h; exact (ct_c64 y z r s w hx.1 hx.2).mono fun e w' ⟨h2, h3⟩ => ⟨⟨_, h2, rfl⟩, h3⟩
  | c128 y z => subst h; exact (ct_c128 y z w).mono fun e w' ⟨h2, h3⟩ => ⟨⟨_, h2, rfl⟩, h3⟩
  | str bs => subst h; exact (ct_str _ w).mono fun e w' ⟨h2, h3⟩ => ⟨⟨_, h2, rfl⟩, h3⟩

end Go.Proofs.YtaoonpncnahhgaaDoor
