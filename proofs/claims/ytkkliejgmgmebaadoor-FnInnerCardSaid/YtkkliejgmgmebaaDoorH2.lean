/-
  For every content, every place and every list of calls laws.FnInner returns true, and all three arguments read afterwards as before; the variables io.EOF and errZZ hold what the program's text lays. No condition.
-/
import Derived.Test.YtkkliejgmgmebaaDoorP2
import Derived.Test.YtkkliejgmgmebaaDoorL8
namespace Go.Proofs.YtkkliejgmgmebaaDoor
open Go.ChangeShapes Go.WideShapes Go.ChangeAt Go.RowKit

namespace fnInner
set_option maxRecDepth 100000 in
theorem contract (H : Type) (enc : TypeId × Value → H) (W : World) (base : Nat) (args : Array Value) (ds gs : List (DataW H)) (before : List MemPlace)
    (hval : ∀ (j : Nat) t v, Tryd.f4.params[j]? = some t → args[j]? = some v → Value.okWide Tryd.prog W .any base t v)
    (hW : DataW.Whole enc Tryd.prog Tryd.f4.params.toList Rows.fnInnerSpec.vars false W args.toList ds gs before)
    (hL : laidMet Tryd.prog [("io.EOF", Rows.laid_io_EOF), ("lldbengine/pub/lldb.errZZ", Rows.laid_lldbengine_pub_lldb_errZZ)] W) :
    Calls Tryd.prog 4 args W fun e W' => ∃ v, e = .returned v ∧ Rows.fnInnerSpec.post enc Tryd.prog Tryd.f4 false true false false W args v W' := by
  have hW' := hW
  obtain ⟨p, q, hA0, hV, rfl, hfz, hnd⟩ := hW
  have hA : DataW.TrodAll enc Tryd.prog W 0 (fun _ => true) true Tryd.f4.params.toList args.toList ds p := hA0
  rw [Tryd.params4] at hA hval
  obtain ⟨v0, v1, v2, d0, d1, d2, p0, p1, p2, rfl, rfl, rfl, h0, hz, h1⟩ := trodAll_three hA
  obtain ⟨rfl, rfl⟩ := trodVars_none hV
  obtain ⟨a0, n0, c0, bs, rfl, l0, -, r0⟩ := arg_bytes (hval 0 22 v0 rfl rfl) h0
  obtain ⟨z, rfl, rfl, rfl, hwz⟩ := open_int Tryd.underlying2 (hval 1 2 v1 rfl rfl) hz
  obtain ⟨a1, n1, c1, L, rfl, e1, l1, m1, r1⟩ := arg_ops (hval 2 23 v2 rfl rfl) h1
  obtain ⟨va, vb, hv⟩ := vars_of_laid hL
  clear hA0
  refine (inner_law W bs L a0 n0 c0 z a1 n1 c1 va vb r0 l0 e1 l1 m1 r1 hv).mono fun e W' ⟨he, hb⟩ => ?_
  subst he
  have hlt0 : ∀ x ∈ p0, x.block < W.heap.size := fun x hx => by simpa using hW'.lt x (by simp [hx])
  have hlt1 : ∀ x ∈ p2, x.block < W.heap.size := fun x hx => by simpa using hW'.lt x (by simp [hx])
  refine ⟨_, rfl, _, _, _, [], p0 ++ ([] ++ p2), [], hW', ?_, ?_, rfl, hb.frame _, fun h => by cases h⟩
  · exact trodAll_mk1 (shut_bool Tryd.underlying4 _)
  · exact trodAll_mk3 (bytes_kept h0 hb hlt0) (shut_int Tryd.underlying2 hwz) (ops_kept h1 hb hlt1)

theorem reads (os : Os) {H : Type} (enc : TypeId × Value → H) : ∃ places, DataW.whole enc Tryd.prog ((laidWorld os).forCall (fun _ _ => 0) ⟨#[], #[.slice none 0 0, .int .i64 0, .slice none 0 0], []⟩).memory Tryd.f4.params.toList Rows.fnInnerSpec.vars false #[Value.slice none 0 0, Value.int .i64 0, Value.slice none 0 0].toList 8 = some ([.nil, .lit (.int .i64 0), .nil], [], places) :=
  ⟨[], by kernel_rfl⟩

set_option maxRecDepth 100000 in
theorem lifted (os : Os) (started : os.Started) (H : Type) (enc : TypeId × Value → H) (F : Stop.Interp) :
    ReturnsInHanded {} Tryd.checked os 4 .any ((OpenSpec.ofChange Rows.fnInnerSpec).preRow enc Tryd.prog Tryd.f4 Rows.fnInnerRow.domain false Rows.fnInnerRow.laid) (((OpenSpec.ofChange Rows.fnInnerSpec).at F).post enc Tryd.prog Tryd.f4 false true false false) := by
  obtain ⟨places, hx⟩ := reads os enc
  refine returnsInHanded_of_row (C := Tryd.checked) (s := OpenSpec.ofChange Rows.fnInnerSpec) own started (by kernel_rfl) Tryd.func4
    (witness_row_atRef (enc := enc) (C := Tryd.checked) false (laidWorld os) #[.slice none 0 0, .int .i64 0, .slice none 0 0] rfl (by kernel_rfl) (by kernel_rfl) (by kernel_rfl)
      (OpenSpec.preRow_of_cond 8 hx (by kernel_rfl) (fun k hk => by cases hk) (by kernel_rfl) (laid_met os _))) ?_
  intro W base args ds gs before hval hW _ _ _ hL _ _
  exact contract H enc W base args ds gs before hval hW hL

theorem said : Rows.FnInnerSaid :=
  OpenClaim.holds_of_cond 4 Tryd.f4 rfl rfl rfl rfl rfl rfl rfl ⟨rfl, rfl, rfl, rfl, rfl⟩ rfl rfl rfl rfl rfl (by kernel_rfl) Tryd.func4 (by kernel_rfl)
    (of_decide_eq_true (by kernel_rfl)) (by unfold Func.isWrapper; first | (rw [if_pos (by decide +kernel)]; kernel_rfl) | (rw [if_neg (by decide +kernel)]; exact ⟨rfl, rfl⟩))
    (fun os started H enc _ F => by rw [OpenClaim.pre_eq_preRow]; exact lifted os started H enc F)

/-- No parameter wants a stand-in; the program's own looks are on. -/
theorem plain (f : FuncId) (fn : Func) (hf : Tryd.pinned.checked.prog.funcNamed "lldbengine/laws.FnInner" = some f) (hfn : Tryd.pinned.checked.prog.funcs[f]? = some fn) :
    true = Tryd.pinned.checked.prog.looks [] ∧ ∀ (j : Nat) t, fn.params[j]? = some t → Tryd.pinned.checked.prog.wantsStandIn t = false := by
  obtain rfl : f = 4 := Option.some.inj ((show Tryd.prog.funcNamed "lldbengine/laws.FnInner" = some 4 by kernel_rfl).symm.trans hf) |>.symm
  obtain rfl : fn = Tryd.f4 := (Option.some.inj (Tryd.func4.symm.trans hfn)).symm
  refine ⟨by kernel_rfl, fun j t ht => ?_⟩
  rw [Tryd.params4] at ht
  have hm : t = 22 ∨ t = 2 ∨ t = 23 := by simpa using Array.mem_of_getElem? ht
  rcases hm with rfl | rfl | rfl
  · exact (show Tryd.prog.wantsStandIn 22 = false by kernel_rfl)
  · exact (show Tryd.prog.wantsStandIn 2 = false by kernel_rfl)
  · exact (show Tryd.prog.wantsStandIn 23 = false by kernel_rfl)
end fnInner

/-- THE CARD. -/
theorem fnInner_holds : Rows.FnInnerCardSaid :=
  Claim7.holds_tied_plain_at .later [] _ _ _ _ fnInner.said (fun _ h => by cases h) (by kernel_rfl) (fun _ h => by cases h) fnInner_row_tie rfl ⟨rfl, rfl⟩ (by kernel_rfl) rfl fnInner.plain (by kernel_rfl)

#print axioms fnInner_holds
end Go.Proofs.YtkkliejgmgmebaaDoor
