/-
  The proof of the statement, over the walks of this folder. Frame: the kit's own way (a shell's), the world kept by 'Below'.
-/
import Derived.Test.Qxb6614661aRXu
import Derived.Test.Qxb6614661aRXv
import Derived.Test.Qxb6614661aRXw
import Derived.ProofKit
import Derived.OpenShut
import Derived.ChangeOld
import Derived.Carry
namespace Go.Proofs.Qxb6614661aR.fnUnlinedKeepsEveryTextAndNoLine
open Go.ChangeShapes Go.WideShapes Go.ChangeAt Go.RowKit

theorem own : ownKnob Try.prog.godebug = none := by kernel_rfl
theorem laidOut : laidOutB Try.prog = true := by kernel_rfl

set_option maxRecDepth 100000 in
theorem lifted (os : Os) (started : os.Started) (H : Type) (enc : TypeId × Value → H) :
    ReturnsInHanded {} Try.checked os 3 .any (Rows.fnUnlinedKeepsEveryTextAndNoLineSpec.pre6 enc Try.prog Try.f3 Rows.fnUnlinedKeepsEveryTextAndNoLineRow.domain false) (Rows.fnUnlinedKeepsEveryTextAndNoLineSpec.post enc Try.prog Try.f3 false true false false) := by
  refine returnsInHanded_of_change (C := Try.checked) own started (by kernel_rfl) Try.func3
    (ChangeSpec.witness6 (enc := enc) (C := Try.checked) false ⟨#[], #[.agg #[.slice none 0 0, .slice none 0 0, .slice none 0 0, .slice none 0 0, .slice none 0 0, .slice none 0 0]], []⟩ 8 (by kernel_rfl) (by kernel_rfl) (by kernel_rfl) (by kernel_rfl)) ?_
  intro W base args ds gs before hval0 hW _ _
  have hval : ∀ (j : Nat) t v, Try.f3.params[j]? = some t → args[j]? = some v → Value.okWide Try.prog W .any base t v := hval0
  have hW' := hW
  obtain ⟨p, q, hA0, hV, rfl, _, _⟩ := hW
  have hA : DataW.TrodAll enc Try.prog W 0 (fun _ => true) true Try.f3.params.toList args.toList ds p := hA0
  rw [Try.params3] at hA hval
  obtain ⟨v0, vs0, d0, ds0, p0, q0, hargs, rfl, rfl, h0, r0⟩ := trodAll_cons hA
  obtain ⟨rfl, rfl, rfl⟩ := trodAll_nil r0
  obtain rfl : args = #[v0] := by cases args; simp_all
  obtain ⟨rfl, rfl⟩ := trodVars_none hV
  have lt0 : ∀ x ∈ p0, x.block < W.heap.size := by obtain ⟨m, hm⟩ := h0; exact DataW.trod_lt m _ _ _ hm
  obtain ⟨S, rfl, lies⟩ := oSpec (hval 0 28 v0 rfl rfl) h0
  clear hA0 hval0
  refine (w3 S W lies).mono fun e W' ⟨he, bel⟩ => ?_
  subst he
  exact ⟨_, rfl, _, _, _, [], _, [], hW', trodAll_mk1 (shut_bool Try.underlying4 _), (trodAll_cons_mk (Below.trod laidOut (by kernel_rfl) (of_decide_eq_true (by kernel_rfl)) h0 bel lt0) trodAll_mk0), rfl, bel.frame _, fun h => by cases h⟩

theorem over : Rows.fnUnlinedKeepsEveryTextAndNoLineRow.holds Try.pinned (OpenSpec.ofChange Rows.fnUnlinedKeepsEveryTextAndNoLineSpec) :=
  OpenClaim.holds_of_wide 3 Try.f3 rfl rfl rfl rfl rfl rfl rfl ⟨rfl, rfl, rfl, rfl, rfl⟩ rfl rfl rfl rfl rfl Unl.named Try.func3 Unl.closed Unl.inst Unl.wrap
    (fun os started H enc _ => lifted os started H enc)

/-- THE STATEMENT. -/
theorem proved : Rows.FnUnlinedKeepsEveryTextAndNoLineSaid := over
#print axioms proved
end Go.Proofs.Qxb6614661aR.fnUnlinedKeepsEveryTextAndNoLine
