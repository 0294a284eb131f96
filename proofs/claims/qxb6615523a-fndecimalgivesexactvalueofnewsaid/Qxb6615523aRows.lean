/-
  No cell of these rows narrows 'for every input' (looked for: loops, veiled, ifaces, maps, wideKeys, modest, calm, conditions, laid).
  DERIVED. THE GIVEN ROWS OF THIS SEAT. 1 by the template 'for every input the law returns true; each argument reads behind the call as it read before'; 0 by the template 'total and deterministic' (their statements: Qxb6615523aTotals.lean).
  GIVEN WITH THE SEED: the statements are not yours to turn. If you find one false, say at which input.
  Laid BY PROGRAM, IN A SANDBOX (cutbox-rows.mjs): the forced cells as the released guide's own fill.sh prints them over the translation 013ca764f57e7358… (all of the seat's roots in one cut). By AI agents, Wed Nov 11 2026. No macro, syntax, notation, axiom, sorry.
-/
import Derived.Test.Qxb6615523aChecked
import GoSem.Claim
import GoSem.ClaimJoined
import GoSem.ClaimMapViews
import Derived.JoinedTies
import Derived.KernelRfl
namespace Go.Proofs.Qxb6615523a
/- THE CELL 'sum', in the pinned program and in every row, IS THE sha256 OF THE DUMP (.gsa) THAT Qxb6615523aProg.lean LOADS. Nothing in Lean hashes anything: it is a label: what it is worth is what the hold of that sum in a sandbox is worth. -/
noncomputable def Try.pinned : Pinned := { name := "qxb6615523a", sum := "013ca764f57e7358525ec0c68c913ffb27922c128d2dbccbafcfad38fd42b3d8", checked := Try.checked }
namespace Rows
def none {H : Type} : Left H := { results := [], args := [] }

/-- 'zzlaws_internal_decimals_b1.FnDecimalGivesExactValueOfNew': WHATEVER THE INPUT: true; the input reads as it did. -/
def fnDecimalGivesExactValueOfNewSpec : ChangeSpec := { name := "fnDecimalGivesExactValueOfNew", fn := fun _ => fun
  | [d1, d2, d3] => { results := [.lit (.bool true)], args := [d1, d2, d3] }
  | _ => none }
def fnDecimalGivesExactValueOfNewRow : OpenClaim := { program := "qxb6615523a", sum := "013ca764f57e7358525ec0c68c913ffb27922c128d2dbccbafcfad38fd42b3d8", func := "example.com/tierline/tierline/zzlaws_internal_decimals_b1.FnDecimalGivesExactValueOfNew", spec := "fnDecimalGivesExactValueOfNew", apart := false }
def FnDecimalGivesExactValueOfNewSaid : Prop := fnDecimalGivesExactValueOfNewRow.holds Try.pinned (OpenSpec.ofChange fnDecimalGivesExactValueOfNewSpec)

/-- ITS FALSE NEIGHBOUR: 'it returns false'. Refute it at one input. -/
def fnDecimalGivesExactValueOfNewWrong : ChangeSpec := { name := "fnDecimalGivesExactValueOfNew", fn := fun _ => fun
  | [d1, d2, d3] => { results := [.lit (.bool false)], args := [d1, d2, d3] }
  | _ => none }
def FnDecimalGivesExactValueOfNewWrongFalsely : Prop := fnDecimalGivesExactValueOfNewRow.holds Try.pinned (OpenSpec.ofChange fnDecimalGivesExactValueOfNewWrong)

end Rows
end Go.Proofs.Qxb6615523a
