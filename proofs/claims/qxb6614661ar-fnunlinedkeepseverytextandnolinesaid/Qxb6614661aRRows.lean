/-
  No cell of these rows narrows 'for every input' (looked for: loops, veiled, ifaces, maps, wideKeys, modest, calm, conditions, laid).
  DERIVED. THE GIVEN ROWS OF THIS SEAT. 7 by the template 'for every input the law returns true; each argument reads behind the call as it read before'; 0 by the template 'total and deterministic' (their statements: Qxb6614661aRTotals.lean).
  GIVEN WITH THE SEED: the statements are not yours to turn. If you find one false, say at which input.
  Laid BY PROGRAM, IN A SANDBOX (cutbox-rows.mjs): the forced cells as the released guide's own fill.sh prints them over the translation ecc611d1716025c1… (all of the seat's roots in one cut). By AI agents, Wed Nov 11 2026. No macro, syntax, notation, axiom, sorry.
-/
import Derived.Test.Qxb6614661aRChecked
import GoSem.Claim
import GoSem.ClaimJoined
import GoSem.ClaimMapViews
import Derived.JoinedTies
import Derived.KernelRfl
namespace Go.Proofs.Qxb6614661aR
/- THE CELL 'sum', in the pinned program and in every row, IS THE sha256 OF THE DUMP (.gsa) THAT Qxb6614661aRProg.lean LOADS. Nothing in Lean hashes anything: it is a label: what it is worth is what the hold of that sum in a sandbox is worth. -/
noncomputable def Try.pinned : Pinned := { name := "qxb6614661ar", sum := "ecc611d1716025c114ae47f5271e39838643fd248b35c1aada9e3ae5625ebe18", checked := Try.checked }
namespace Rows
def none {H : Type} : Left H := { results := [], args := [] }

/-- 'zzlaws_pkg_policy_b1.FnUnlinedKeepsEveryTextAndNoLine': WHATEVER THE INPUT: true; the input reads as it did. -/
def fnUnlinedKeepsEveryTextAndNoLineSpec : ChangeSpec := { name := "fnUnlinedKeepsEveryTextAndNoLine", fn := fun _ => fun
  | [d] => { results := [.lit (.bool true)], args := [d] }
  | _ => none }
def fnUnlinedKeepsEveryTextAndNoLineRow : OpenClaim := { program := "qxb6614661ar", sum := "ecc611d1716025c114ae47f5271e39838643fd248b35c1aada9e3ae5625ebe18", func := "example.com/weaver-ant/weaver-ant/zzlaws_pkg_policy_b1.FnUnlinedKeepsEveryTextAndNoLine", spec := "fnUnlinedKeepsEveryTextAndNoLine", unfollowed := true, recurses := true, apart := false }
def FnUnlinedKeepsEveryTextAndNoLineSaid : Prop := fnUnlinedKeepsEveryTextAndNoLineRow.holds Try.pinned (OpenSpec.ofChange fnUnlinedKeepsEveryTextAndNoLineSpec)

/-- ITS FALSE NEIGHBOUR: 'it returns false'. Refute it at one input. -/
def fnUnlinedKeepsEveryTextAndNoLineWrong : ChangeSpec := { name := "fnUnlinedKeepsEveryTextAndNoLine", fn := fun _ => fun
  | [d] => { results := [.lit (.bool false)], args := [d] }
  | _ => none }
def FnUnlinedKeepsEveryTextAndNoLineWrongFalsely : Prop := fnUnlinedKeepsEveryTextAndNoLineRow.holds Try.pinned (OpenSpec.ofChange fnUnlinedKeepsEveryTextAndNoLineWrong)

/-- 'zzlaws_pkg_policy_b1.FnEncodeJoinsAtAnyCutAndPlacesASCII': WHATEVER THE INPUT: true; the input reads as it did. -/
def fnEncodeJoinsAtAnyCutAndPlacesASCIISpec : ChangeSpec := { name := "fnEncodeJoinsAtAnyCutAndPlacesASCII", fn := fun _ => fun
  | [d1, d2, d3, d4, d5] => { results := [.lit (.bool true)], args := [d1, d2, d3, d4, d5] }
  | _ => none }
def fnEncodeJoinsAtAnyCutAndPlacesASCIIRow : OpenClaim := { program := "qxb6614661ar", sum := "ecc611d1716025c114ae47f5271e39838643fd248b35c1aada9e3ae5625ebe18", func := "example.com/weaver-ant/weaver-ant/zzlaws_pkg_policy_b1.FnEncodeJoinsAtAnyCutAndPlacesASCII", spec := "fnEncodeJoinsAtAnyCutAndPlacesASCII", unfollowed := true, recurses := true, named := ["encoding/binary.BigEndian", "encoding/binary.LittleEndian"], apart := false }
def FnEncodeJoinsAtAnyCutAndPlacesASCIISaid : Prop := fnEncodeJoinsAtAnyCutAndPlacesASCIIRow.holds Try.pinned (OpenSpec.ofChange fnEncodeJoinsAtAnyCutAndPlacesASCIISpec)

/-- ITS FALSE NEIGHBOUR: 'it returns false'. Refute it at one input. -/
def fnEncodeJoinsAtAnyCutAndPlacesASCIIWrong : ChangeSpec := { name := "fnEncodeJoinsAtAnyCutAndPlacesASCII", fn := fun _ => fun
  | [d1, d2, d3, d4, d5] => { results := [.lit (.bool false)], args := [d1, d2, d3, d4, d5] }
  | _ => none }
def FnEncodeJoinsAtAnyCutAndPlacesASCIIWrongFalsely : Prop := fnEncodeJoinsAtAnyCutAndPlacesASCIIRow.holds Try.pinned (OpenSpec.ofChange fnEncodeJoinsAtAnyCutAndPlacesASCIIWrong)

/-- 'zzlaws_pkg_policy_b1.FnEncodeReadsBackThroughText': WHATEVER THE INPUT: true; the input reads as it did. -/
def fnEncodeReadsBackThroughTextSpec : ChangeSpec := { name := "fnEncodeReadsBackThroughText", fn := fun _ => fun
  | [d1, d2, d3, d4] => { results := [.lit (.bool true)], args := [d1, d2, d3, d4] }
  | _ => none }
def fnEncodeReadsBackThroughTextRow : OpenClaim := { program := "qxb6614661ar", sum := "ecc611d1716025c114ae47f5271e39838643fd248b35c1aada9e3ae5625ebe18", func := "example.com/weaver-ant/weaver-ant/zzlaws_pkg_policy_b1.FnEncodeReadsBackThroughText", spec := "fnEncodeReadsBackThroughText", unfollowed := true, recurses := true, named := ["encoding/binary.BigEndian", "encoding/binary.LittleEndian"], apart := false }
def FnEncodeReadsBackThroughTextSaid : Prop := fnEncodeReadsBackThroughTextRow.holds Try.pinned (OpenSpec.ofChange fnEncodeReadsBackThroughTextSpec)

/-- ITS FALSE NEIGHBOUR: 'it returns false'. Refute it at one input. -/
def fnEncodeReadsBackThroughTextWrong : ChangeSpec := { name := "fnEncodeReadsBackThroughText", fn := fun _ => fun
  | [d1, d2, d3, d4] => { results := [.lit (.bool false)], args := [d1, d2, d3, d4] }
  | _ => none }
def FnEncodeReadsBackThroughTextWrongFalsely : Prop := fnEncodeReadsBackThroughTextRow.holds Try.pinned (OpenSpec.ofChange fnEncodeReadsBackThroughTextWrong)

/-- 'zzlaws_pkg_policy_b1.FnLineFeedIsTheEncodedNewline': WHATEVER THE INPUT: true; the input reads as it did. -/
def fnLineFeedIsTheEncodedNewlineSpec : ChangeSpec := { name := "fnLineFeedIsTheEncodedNewline", fn := fun _ => fun
  | [d1, d2, d3] => { results := [.lit (.bool true)], args := [d1, d2, d3] }
  | _ => none }
def fnLineFeedIsTheEncodedNewlineRow : OpenClaim := { program := "qxb6614661ar", sum := "ecc611d1716025c114ae47f5271e39838643fd248b35c1aada9e3ae5625ebe18", func := "example.com/weaver-ant/weaver-ant/zzlaws_pkg_policy_b1.FnLineFeedIsTheEncodedNewline", spec := "fnLineFeedIsTheEncodedNewline", unfollowed := true, recurses := true, named := ["encoding/binary.BigEndian", "encoding/binary.LittleEndian"], apart := false }
def FnLineFeedIsTheEncodedNewlineSaid : Prop := fnLineFeedIsTheEncodedNewlineRow.holds Try.pinned (OpenSpec.ofChange fnLineFeedIsTheEncodedNewlineSpec)

/-- ITS FALSE NEIGHBOUR: 'it returns false'. Refute it at one input. -/
def fnLineFeedIsTheEncodedNewlineWrong : ChangeSpec := { name := "fnLineFeedIsTheEncodedNewline", fn := fun _ => fun
  | [d1, d2, d3] => { results := [.lit (.bool false)], args := [d1, d2, d3] }
  | _ => none }
def FnLineFeedIsTheEncodedNewlineWrongFalsely : Prop := fnLineFeedIsTheEncodedNewlineRow.holds Try.pinned (OpenSpec.ofChange fnLineFeedIsTheEncodedNewlineWrong)

/-- 'zzlaws_pkg_policy_b1.FnLineFeedJoinsLinesThatReadBack': WHATEVER THE INPUT: true; the input reads as it did. -/
def fnLineFeedJoinsLinesThatReadBackSpec : ChangeSpec := { name := "fnLineFeedJoinsLinesThatReadBack", fn := fun _ => fun
  | [d1, d2, d3, d4, d5] => { results := [.lit (.bool true)], args := [d1, d2, d3, d4, d5] }
  | _ => none }
def fnLineFeedJoinsLinesThatReadBackRow : OpenClaim := { program := "qxb6614661ar", sum := "ecc611d1716025c114ae47f5271e39838643fd248b35c1aada9e3ae5625ebe18", func := "example.com/weaver-ant/weaver-ant/zzlaws_pkg_policy_b1.FnLineFeedJoinsLinesThatReadBack", spec := "fnLineFeedJoinsLinesThatReadBack", unfollowed := true, recurses := true, named := ["encoding/binary.BigEndian", "encoding/binary.LittleEndian"], apart := false }
def FnLineFeedJoinsLinesThatReadBackSaid : Prop := fnLineFeedJoinsLinesThatReadBackRow.holds Try.pinned (OpenSpec.ofChange fnLineFeedJoinsLinesThatReadBackSpec)

/-- ITS FALSE NEIGHBOUR: 'it returns false'. Refute it at one input. -/
def fnLineFeedJoinsLinesThatReadBackWrong : ChangeSpec := { name := "fnLineFeedJoinsLinesThatReadBack", fn := fun _ => fun
  | [d1, d2, d3, d4, d5] => { results := [.lit (.bool false)], args := [d1, d2, d3, d4, d5] }
  | _ => none }
def FnLineFeedJoinsLinesThatReadBackWrongFalsely : Prop := fnLineFeedJoinsLinesThatReadBackRow.holds Try.pinned (OpenSpec.ofChange fnLineFeedJoinsLinesThatReadBackWrong)

/-- 'zzlaws_pkg_policy_b1.FnReadCounterCountsWhatItHandsOut': WHATEVER THE INPUT: true; the input reads as it did. -/
def fnReadCounterCountsWhatItHandsOutSpec : ChangeSpec := { name := "fnReadCounterCountsWhatItHandsOut", fn := fun _ => fun
  | [d1, d2, d3] => { results := [.lit (.bool true)], args := [d1, d2, d3] }
  | _ => none }
def fnReadCounterCountsWhatItHandsOutRow : OpenClaim := { program := "qxb6614661ar", sum := "ecc611d1716025c114ae47f5271e39838643fd248b35c1aada9e3ae5625ebe18", func := "example.com/weaver-ant/weaver-ant/zzlaws_pkg_policy_b1.FnReadCounterCountsWhatItHandsOut", spec := "fnReadCounterCountsWhatItHandsOut", unfollowed := true, recurses := true, apart := false }
def FnReadCounterCountsWhatItHandsOutSaid : Prop := fnReadCounterCountsWhatItHandsOutRow.holds Try.pinned (OpenSpec.ofChange fnReadCounterCountsWhatItHandsOutSpec)

/-- ITS FALSE NEIGHBOUR: 'it returns false'. Refute it at one input. -/
def fnReadCounterCountsWhatItHandsOutWrong : ChangeSpec := { name := "fnReadCounterCountsWhatItHandsOut", fn := fun _ => fun
  | [d1, d2, d3] => { results := [.lit (.bool false)], args := [d1, d2, d3] }
  | _ => none }
def FnReadCounterCountsWhatItHandsOutWrongFalsely : Prop := fnReadCounterCountsWhatItHandsOutRow.holds Try.pinned (OpenSpec.ofChange fnReadCounterCountsWhatItHandsOutWrong)

/-- 'zzlaws_pkg_policy_b1.FnReadCounterPiecesAgreeWithOneRead': WHATEVER THE INPUT: true; the input reads as it did. -/
def fnReadCounterPiecesAgreeWithOneReadSpec : ChangeSpec := { name := "fnReadCounterPiecesAgreeWithOneRead", fn := fun _ => fun
  | [d1, d2, d3] => { results := [.lit (.bool true)], args := [d1, d2, d3] }
  | _ => none }
def fnReadCounterPiecesAgreeWithOneReadRow : OpenClaim := { program := "qxb6614661ar", sum := "ecc611d1716025c114ae47f5271e39838643fd248b35c1aada9e3ae5625ebe18", func := "example.com/weaver-ant/weaver-ant/zzlaws_pkg_policy_b1.FnReadCounterPiecesAgreeWithOneRead", spec := "fnReadCounterPiecesAgreeWithOneRead", unfollowed := true, recurses := true, apart := false }
def FnReadCounterPiecesAgreeWithOneReadSaid : Prop := fnReadCounterPiecesAgreeWithOneReadRow.holds Try.pinned (OpenSpec.ofChange fnReadCounterPiecesAgreeWithOneReadSpec)

/-- ITS FALSE NEIGHBOUR: 'it returns false'. Refute it at one input. -/
def fnReadCounterPiecesAgreeWithOneReadWrong : ChangeSpec := { name := "fnReadCounterPiecesAgreeWithOneRead", fn := fun _ => fun
  | [d1, d2, d3] => { results := [.lit (.bool false)], args := [d1, d2, d3] }
  | _ => none }
def FnReadCounterPiecesAgreeWithOneReadWrongFalsely : Prop := fnReadCounterPiecesAgreeWithOneReadRow.holds Try.pinned (OpenSpec.ofChange fnReadCounterPiecesAgreeWithOneReadWrong)

end Rows
end Go.Proofs.Qxb6614661aR
