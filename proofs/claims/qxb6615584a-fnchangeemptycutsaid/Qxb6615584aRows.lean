/-
  NARROWER THAN 'FOR EVERY INPUT', by the rows' own cells (each row's printed sentence says how): FnChangeEmptyExact: maps · FnChangeEmptyCut: maps.
  DERIVED. THE GIVEN ROWS OF THIS SEAT. 3 by the template 'for every input the law returns true; each argument reads behind the call as it read before'; 0 by the template 'total and deterministic' (their statements: Qxb6615584aTotals.lean).
  GIVEN WITH THE SEED: the statements are not yours to turn. If you find one false, say at which input.
  Laid BY PROGRAM, IN A SANDBOX (cutbox-rows.mjs): the forced cells as the released guide's own fill.sh prints them over the translation bb4827e69e3fa6e8… (all of the seat's roots in one cut). By AI agents, Wed Nov 11 2026. No macro, syntax, notation, axiom, sorry.
-/
import Derived.Test.Qxb6615584aChecked
import GoSem.Claim
import GoSem.ClaimJoined
import GoSem.ClaimMapViews
import Derived.JoinedTies
import Derived.KernelRfl
namespace Go.Proofs.Qxb6615584a
/- THE CELL 'sum', in the pinned program and in every row, IS THE sha256 OF THE DUMP (.gsa) THAT Qxb6615584aProg.lean LOADS. Nothing in Lean hashes anything: it is a label: what it is worth is what the hold of that sum in a sandbox is worth. -/
noncomputable def Try.pinned : Pinned := { name := "qxb6615584a", sum := "bb4827e69e3fa6e83fb49097cf47c0bff35739481663e41be911999104548d9e", checked := Try.checked }
namespace Rows
def none {H : Type} : Left H := { results := [], args := [] }

/-- 'zzlaws_root_b1.FnChangeEmptyExact': WHATEVER THE INPUT: true; the input reads as it did. -/
def fnChangeEmptyExactSpec : ChangeSpec := { name := "fnChangeEmptyExact", fn := fun _ => fun
  | [d1, d2, d3, d4, d5] => { results := [.lit (.bool true)], args := [d1, d2, d3, d4, d5] }
  | _ => none }
def fnChangeEmptyExactRow : OpenClaim := { program := "qxb6615584a", sum := "bb4827e69e3fa6e83fb49097cf47c0bff35739481663e41be911999104548d9e", func := "example.com/clockring/clockring/zzlaws_root_b1.FnChangeEmptyExact", spec := "fnChangeEmptyExact", maps := true, apart := false }
def FnChangeEmptyExactSaid : Prop := fnChangeEmptyExactRow.holds Try.pinned (OpenSpec.ofChange fnChangeEmptyExactSpec)

/-- ITS FALSE NEIGHBOUR: 'it returns false'. Refute it at one input. -/
def fnChangeEmptyExactWrong : ChangeSpec := { name := "fnChangeEmptyExact", fn := fun _ => fun
  | [d1, d2, d3, d4, d5] => { results := [.lit (.bool false)], args := [d1, d2, d3, d4, d5] }
  | _ => none }
def FnChangeEmptyExactWrongFalsely : Prop := fnChangeEmptyExactRow.holds Try.pinned (OpenSpec.ofChange fnChangeEmptyExactWrong)

/-- 'zzlaws_root_b1.FnChangeEmptyCut': WHATEVER THE INPUT: true; the input reads as it did. -/
def fnChangeEmptyCutSpec : ChangeSpec := { name := "fnChangeEmptyCut", fn := fun _ => fun
  | [d1, d2, d3, d4, d5, d6, d7] => { results := [.lit (.bool true)], args := [d1, d2, d3, d4, d5, d6, d7] }
  | _ => none }
def fnChangeEmptyCutRow : OpenClaim := { program := "qxb6615584a", sum := "bb4827e69e3fa6e83fb49097cf47c0bff35739481663e41be911999104548d9e", func := "example.com/clockring/clockring/zzlaws_root_b1.FnChangeEmptyCut", spec := "fnChangeEmptyCut", maps := true, apart := false }
def FnChangeEmptyCutSaid : Prop := fnChangeEmptyCutRow.holds Try.pinned (OpenSpec.ofChange fnChangeEmptyCutSpec)

/-- ITS FALSE NEIGHBOUR: 'it returns false'. Refute it at one input. -/
def fnChangeEmptyCutWrong : ChangeSpec := { name := "fnChangeEmptyCut", fn := fun _ => fun
  | [d1, d2, d3, d4, d5, d6, d7] => { results := [.lit (.bool false)], args := [d1, d2, d3, d4, d5, d6, d7] }
  | _ => none }
def FnChangeEmptyCutWrongFalsely : Prop := fnChangeEmptyCutRow.holds Try.pinned (OpenSpec.ofChange fnChangeEmptyCutWrong)

/-- 'zzlaws_root_b1.FnAcceptOrderFree': WHATEVER THE INPUT: true; the input reads as it did. -/
def fnAcceptOrderFreeSpec : ChangeSpec := { name := "fnAcceptOrderFree", fn := fun _ => fun
  | [d1, d2, d3, d4, d5] => { results := [.lit (.bool true)], args := [d1, d2, d3, d4, d5] }
  | _ => none }
def fnAcceptOrderFreeRow : OpenClaim := { program := "qxb6615584a", sum := "bb4827e69e3fa6e83fb49097cf47c0bff35739481663e41be911999104548d9e", func := "example.com/clockring/clockring/zzlaws_root_b1.FnAcceptOrderFree", spec := "fnAcceptOrderFree", inPlace := ["internal/reflectlite.ValueOf", "internal/reflectlite.Swapper", "(internal/reflectlite.Value).Len"], unfollowed := true, recurses := true, named := ["encoding/binary.BigEndian"], apart := false }
def FnAcceptOrderFreeSaid : Prop := fnAcceptOrderFreeRow.holds Try.pinned (OpenSpec.ofChange fnAcceptOrderFreeSpec)

/-- ITS FALSE NEIGHBOUR: 'it returns false'. Refute it at one input. -/
def fnAcceptOrderFreeWrong : ChangeSpec := { name := "fnAcceptOrderFree", fn := fun _ => fun
  | [d1, d2, d3, d4, d5] => { results := [.lit (.bool false)], args := [d1, d2, d3, d4, d5] }
  | _ => none }
def FnAcceptOrderFreeWrongFalsely : Prop := fnAcceptOrderFreeRow.holds Try.pinned (OpenSpec.ofChange fnAcceptOrderFreeWrong)

end Rows
end Go.Proofs.Qxb6615584a
