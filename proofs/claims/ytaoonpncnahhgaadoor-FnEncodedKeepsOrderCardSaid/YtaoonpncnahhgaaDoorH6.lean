/-
  For every two lists of scalars laws.FnEncodedKeepsOrder returns true, and both arguments read afterwards as before; the variables io.EOF and errZZ hold what the program's text lays. No condition.
-/
import Derived.Test.YtaoonpncnahhgaaDoorP0
import Derived.Test.YtaoonpncnahhgaaDoorL6
namespace Go.Proofs.YtaoonpncnahhgaaDoor
open Go.ChangeShapes Go.WideShapes Go.ChangeAt Go.RowKit

namespace fnEncodedKeepsOrder
set_option maxRecDepth 100000 in
theorem contract (H : Type) (enc : TypeId × Value → H) (W : World) (base : Nat) (args : Array Value) (ds gs : List (DataW H)) (before : List MemPlace)
    (hval : ∀ (j : Nat) t v, Tryd.f6.params[j]? = some t → args[j]? = some v → Value.okWide Tryd.prog W .any base t v)
    (hW : DataW.Whole enc Tryd.prog Tryd.f6.params.toList Rows.fnEncodedKeepsOrderSpec.vars false W args.toList ds gs before) :
    Calls Tryd.prog 6 args W fun e W' => ∃ v, e = .returned v ∧ Rows.fnEncodedKeepsOrderSpec.post enc Tryd.prog Tryd.f6 false true false false W args v W' := by
  have hW' := hW
  obtain ⟨p, q, hA0, hV, rfl, hfz, hnd⟩ := hW
  have hA : DataW.TrodAll enc Tryd.prog W 0 (fun _ => true) true Tryd.f6.params.toList args.toList ds p := hA0
  rw [Tryd.params6] at hA hval
  obtain ⟨v0, v1, d0, d1, p0, p1, rfl, rfl, rfl, h0, h1⟩ := trodAll_two hA
  obtain ⟨rfl, rfl⟩ := trodVars_none hV
  obtain ⟨a0, n0, c0, L0, rfl, l0, m0, r0⟩ := arg_list (hval 0 22 v0 rfl rfl) h0
  obtain ⟨a1, n1, c1, L1, rfl, l1, m1, r1⟩ := arg_list (hval 1 22 v1 rfl rfl) h1
  clear hA0
  refine (law6 a0 a1 n0 n1 c0 c1 L0 L1 W ⟨l0, m0, r0⟩ ⟨l1, m1, r1⟩).mono fun e W' ⟨he, hb⟩ => ?_
  subst he
  have hlt0 : ∀ x ∈ p0, x.block < W.heap.size := fun x hx => by simpa using hW'.lt x (by simp [hx])
  have hlt1 : ∀ x ∈ p1, x.block < W.heap.size := fun x hx => by simpa using hW'.lt x (by simp [hx])
  refine ⟨_, rfl, _, _, _, [], p0 ++ p1, [], hW', ?_, ?_, rfl, hb.frame _, fun h => by cases h⟩
  · exact trodAll_mk1 (shut_bool Tryd.underlying4 _)
  · exact trodAll_mk2 (arg_kept h0 hb hlt0) (arg_kept h1 hb hlt1)

theorem reads (os : Os) {H : Type} (enc : TypeId × Value → H) : ∃ places, DataW.whole enc Tryd.prog ((laidWorld os).forCall (fun _ _ => 0) ⟨#[], #[.slice none 0 0, .slice none 0 0], []⟩).memory Tryd.f6.params.toList Rows.fnEncodedKeepsOrderSpec.vars false #[Value.slice none 0 0, Value.slice none 0 0].toList 8 = some ([.nil, .nil], [], places) :=
  ⟨[], by kernel_rfl⟩

set_option maxRecDepth 100000 in
theorem lifted (os : Os) (started : os.Started) (H : Type) (enc : TypeId × Value → H) (F : Stop.Interp) :
    ReturnsInHanded {} Tryd.checked os 6 .any ((OpenSpec.ofChange Rows.fnEncodedKeepsOrderSpec).preRow enc Tryd.prog Tryd.f6 Rows.fnEncodedKeepsOrderRow.domain false Rows.fnEncodedKeepsOrderRow.laid) (((OpenSpec.ofChange Rows.fnEncodedKeepsOrderSpec).at F).post enc Tryd.prog Tryd.f6 false true false false) := by
  obtain ⟨places, hx⟩ := reads os enc
  refine returnsInHanded_of_row (C := Tryd.checked) (s := OpenSpec.ofChange Rows.fnEncodedKeepsOrderSpec) own started (by kernel_rfl) Tryd.func6
    (witness_row_atRef (enc := enc) (C := Tryd.checked) false (laidWorld os) #[.slice none 0 0, .slice none 0 0] rfl (by kernel_rfl) (by kernel_rfl) (by kernel_rfl)
      (OpenSpec.preRow_of_cond 8 hx (by kernel_rfl) (fun k hk => by cases hk) (by kernel_rfl) (laid_met os _))) ?_
  intro W base args ds gs before hval hW _ _ _ hL _ _
  exact contract H enc W base args ds gs before hval hW

theorem said : Rows.FnEncodedKeepsOrderSaid :=
  OpenClaim.holds_of_cond 6 Tryd.f6 rfl rfl rfl rfl rfl rfl rfl ⟨rfl, rfl, rfl, rfl, rfl⟩ rfl rfl rfl rfl rfl (by kernel_rfl) Tryd.func6 (by kernel_rfl)
    (of_decide_eq_true (by kernel_rfl)) (by unfold Func.isWrapper; first | (rw [if_pos (by decide +kernel)]; kernel_rfl) | (rw [if_neg (by decide +kernel)]; exact ⟨rfl, rfl⟩))
    (fun os started H enc _ F => by rw [OpenClaim.pre_eq_preRow]; exact lifted os started H enc F)

/-- No parameter wants a stand-in; the program's own looks are on. -/
theorem plain (f : FuncId) (fn : Func) (hf : Tryd.pinned.checked.prog.funcNamed "lldbengine/laws.FnEncodedKeepsOrder" = some f) (hfn : Tryd.pinned.checked.prog.funcs[f]? = some fn) :
    true = Tryd.pinned.checked.prog.looks [] ∧ ∀ (j : Nat) t, fn.params[j]? = some t → Tryd.pinned.checked.prog.wantsStandIn t = false := by
  obtain rfl : f = 6 := Option.some.inj ((show Tryd.prog.funcNamed "lldbengine/laws.FnEncodedKeepsOrder" = some 6 by kernel_rfl).symm.trans hf) |>.symm
  obtain rfl : fn = Tryd.f6 := (Option.some.inj (Tryd.func6.symm.trans hfn)).symm
  refine ⟨by kernel_rfl, fun j t ht => ?_⟩
  rw [Tryd.params6] at ht
  obtain rfl : t = 22 := by simpa using Array.mem_of_getElem? ht
  exact (show Tryd.prog.wantsStandIn 22 = false by kernel_rfl)
end fnEncodedKeepsOrder

/-- THE CARD. -/
theorem fnEncodedKeepsOrder_holds : Rows.FnEncodedKeepsOrderCardSaid :=
  Claim7.holds_tied_plain_at .later [] _ _ _ _ fnEncodedKeepsOrder.said (fun _ h => by cases h) (by kernel_rfl) (fun _ h => by cases h) fnEncodedKeepsOrder_row_tie rfl ⟨rfl, rfl⟩ (by kernel_rfl) rfl fnEncodedKeepsOrder.plain (by kernel_rfl)

#print axioms fnEncodedKeepsOrder_holds
end Go.Proofs.YtaoonpncnahhgaaDoor
