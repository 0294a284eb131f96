import Derived.Test.Qxb6614661aRRows
import Derived.ProofKit
import Derived.OpenShut
/-! The closed facts of the row, one declaration each: in one declaration the kernel ran out of memory. -/
namespace Go.Proofs.Qxb6614661aR.Unl
open Go.ChangeShapes Go.WideShapes Go.ChangeAt Go.RowKit

theorem both {a b : Bool} (ha : a = true) (hb : b = true) : (a && b) = true := by rw [ha, hb]; rfl

theorem k0 : (Rows.fnUnlinedKeepsEveryTextAndNoLineRow.wf (OpenSpec.ofChange Rows.fnUnlinedKeepsEveryTextAndNoLineSpec)) = true := by kernel_rfl
theorem k1 : (laidOutB Try.prog) = true := by kernel_rfl
theorem k2 : (mapsRowed Try.prog) = true := by kernel_rfl
theorem k3 : (Try.f3.params.all (Try.prog.readableRec ·)) = true := by kernel_rfl
theorem k4 : (namedTie Try.prog Rows.fnUnlinedKeepsEveryTextAndNoLineRow.named Rows.fnUnlinedKeepsEveryTextAndNoLineSpec.vars) = true := by kernel_rfl
theorem k5 : ((Rows.fnUnlinedKeepsEveryTextAndNoLineRow.stops == [])) = true := by kernel_rfl
theorem k6 : ((Try.prog.stops == [])) = true := by kernel_rfl
theorem k7 : ((Rows.fnUnlinedKeepsEveryTextAndNoLineRow.knobs == [])) = true := by kernel_rfl
theorem k8 : ((Try.prog.stopKnobs == [])) = true := by kernel_rfl
theorem k9 : ((Rows.fnUnlinedKeepsEveryTextAndNoLineRow.inPlace == Try.prog.inPlace 3)) = true := by kernel_rfl
theorem k10 : ((Rows.fnUnlinedKeepsEveryTextAndNoLineRow.unfollowed == Try.prog.unfollowed 3)) = true := by kernel_rfl
theorem k11 : ((Rows.fnUnlinedKeepsEveryTextAndNoLineRow.recurses == Try.prog.recurses 3)) = true := by kernel_rfl
theorem k12 : ((Rows.fnUnlinedKeepsEveryTextAndNoLineRow.named == Try.prog.varsNamed 3)) = true := by kernel_rfl
theorem k13 : ((Rows.fnUnlinedKeepsEveryTextAndNoLineRow.maps == (Try.f3.params.toList ++ Rows.fnUnlinedKeepsEveryTextAndNoLineSpec.plain.varTypes Try.prog).any (Try.prog.mapsRec ·))) = true := by kernel_rfl
theorem k14 : ((Rows.fnUnlinedKeepsEveryTextAndNoLineRow.ifaces == (Try.f3.params.toList ++ Rows.fnUnlinedKeepsEveryTextAndNoLineSpec.plain.varTypes Try.prog).any (Try.prog.ifacesRec ·))) = true := by kernel_rfl
theorem k15 : ((Rows.fnUnlinedKeepsEveryTextAndNoLineRow.mapsOut == Try.prog.mapsAmong Try.f3.resultTypes.toList)) = true := by kernel_rfl
theorem k16 : ((Rows.fnUnlinedKeepsEveryTextAndNoLineRow.loops == (Try.f3.params.toList ++ Rows.fnUnlinedKeepsEveryTextAndNoLineSpec.plain.varTypes Try.prog).any (Try.prog.loopsFrom ·))) = true := by kernel_rfl
theorem k17 : ((Rows.fnUnlinedKeepsEveryTextAndNoLineRow.wideKeys == (Try.f3.params.toList ++ Rows.fnUnlinedKeepsEveryTextAndNoLineSpec.plain.varTypes Try.prog ++ Try.f3.resultTypes.toList).any (Try.prog.wideKeysFrom ·))) = true := by kernel_rfl
theorem k18 : (Rows.fnUnlinedKeepsEveryTextAndNoLineSpec.vars.all (Try.prog.varReadable ·)) = true := by kernel_rfl
theorem k19 : (Try.f3.resultTypes.all (fun t => Try.prog.readableRec t && decide (t < Try.prog.types.size))) = true := by kernel_rfl
theorem k20 : ((Rows.fnUnlinedKeepsEveryTextAndNoLineRow.ifacesOut == Try.f3.resultTypes.toList.any (Try.prog.ifacesRec ·))) = true := by kernel_rfl
theorem k21 : ((Rows.fnUnlinedKeepsEveryTextAndNoLineRow.loopsOut == Try.f3.resultTypes.toList.any (Try.prog.loopsFrom ·))) = true := by kernel_rfl
theorem k22 : ((Rows.fnUnlinedKeepsEveryTextAndNoLineRow.plainKeys == Try.prog.plainKeys)) = true := by kernel_rfl
theorem k23 : (Rows.fnUnlinedKeepsEveryTextAndNoLineRow.shortTexts.isNone) = true := by kernel_rfl
theorem k24 : (Try.prog.stopsHeard) = true := by kernel_rfl
theorem k28 : ((Rows.fnUnlinedKeepsEveryTextAndNoLineRow.kinds == (if Rows.fnUnlinedKeepsEveryTextAndNoLineRow.domain.isEmpty then [] else Try.f3.params.toList.map fun t => match Try.prog.underlying t with | some (.int k) => some k | _ => none))) = true := by kernel_rfl
theorem k29 : ((Rows.fnUnlinedKeepsEveryTextAndNoLineRow.pinned == Rows.fnUnlinedKeepsEveryTextAndNoLineRow.pinnedBy)) = true := by kernel_rfl
theorem k30 : ((Rows.fnUnlinedKeepsEveryTextAndNoLineRow.veiled == (Try.f3.params.toList ++ Rows.fnUnlinedKeepsEveryTextAndNoLineSpec.plain.varTypes Try.prog ++ Try.f3.resultTypes.toList).any (Try.prog.veiledRec ·))) = true := by kernel_rfl
theorem k31 : (Rows.fnUnlinedKeepsEveryTextAndNoLineRow.veiledFits Try.prog Try.f3.params.toList (Try.f3.params.toList ++ Rows.fnUnlinedKeepsEveryTextAndNoLineSpec.plain.varTypes Try.prog ++ Try.f3.resultTypes.toList)) = true := by kernel_rfl
theorem heavy : ((Try.prog.mayEnter) && ((Rows.fnUnlinedKeepsEveryTextAndNoLineRow.lifted == Try.prog.liftsFinal)) && ((Try.prog.make == some Rows.fnUnlinedKeepsEveryTextAndNoLineRow.make))) = true := by kernel_rfl
theorem k25 : (Try.prog.mayEnter) = true := by have h := heavy; rw [Bool.and_eq_true, Bool.and_eq_true] at h; exact h.1.1
theorem k26 : ((Rows.fnUnlinedKeepsEveryTextAndNoLineRow.lifted == Try.prog.liftsFinal)) = true := by have h := heavy; rw [Bool.and_eq_true, Bool.and_eq_true] at h; exact h.1.2
theorem k27 : ((Try.prog.make == some Rows.fnUnlinedKeepsEveryTextAndNoLineRow.make)) = true := by have h := heavy; rw [Bool.and_eq_true, Bool.and_eq_true] at h; exact h.2
set_option maxRecDepth 100000 in
theorem closed : joinedFacts Try.prog 3 Try.f3 Rows.fnUnlinedKeepsEveryTextAndNoLineSpec Rows.fnUnlinedKeepsEveryTextAndNoLineRow = true :=
  both (both (both (both (both (both (both (both (both (both (both (both (both (both (both (both (both (both (both (both (both (both (both (both (both (both (both (both (both (both (both k0 k1) k2) k3) k4) k5) k6) k7) k8) k9) k10) k11) k12) k13) k14) k15) k16) k17) k18) k19) k20) k21) k22) k23) k24) k25) k26) k27) k28) k29) k30) k31
theorem named : Try.prog.funcNamed Rows.fnUnlinedKeepsEveryTextAndNoLineRow.func = some 3 := by kernel_rfl
theorem inst : Try.f3.isInstance Try.prog Rows.fnUnlinedKeepsEveryTextAndNoLineRow.origin Rows.fnUnlinedKeepsEveryTextAndNoLineRow.targs := of_decide_eq_true (by kernel_rfl)
theorem wrap : Try.f3.isWrapper Try.prog Rows.fnUnlinedKeepsEveryTextAndNoLineRow.wrapper Rows.fnUnlinedKeepsEveryTextAndNoLineRow.mainSum := by unfold Func.isWrapper; first | (rw [if_pos (by decide +kernel)]; kernel_rfl) | (rw [if_neg (by decide +kernel)]; exact ⟨rfl, rfl⟩)

end Go.Proofs.Qxb6614661aR.Unl
