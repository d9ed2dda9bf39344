/-
  No cell of these rows narrows 'for every input' (looked for: loops, veiled, ifaces, maps, wideKeys, modest, calm, conditions, laid).
  DERIVED. THE GIVEN ROWS OF THIS SEAT. 6 by the template 'for every input the law returns true; each argument reads behind the call as it read before'; 0 by the template 'total and deterministic' (their statements: Qxb6003391aTotals.lean).
  GIVEN WITH THE SEED: the statements are not yours to turn. If you find one false, say at which input.
  Laid BY PROGRAM, IN A SANDBOX (cutbox-rows.mjs): the forced cells as the released guide's own fill.sh prints them over the translation ffd32ce6797f2ea5… (all of the seat's roots in one cut). By AI agents, Wed Nov 11 2026. No macro, syntax, notation, axiom, sorry.
-/
import Derived.Test.Qxb6003391aChecked
import GoSem.Claim
import GoSem.ClaimJoined
import GoSem.ClaimMapViews
import Derived.JoinedTies
import Derived.KernelRfl
namespace Go.Proofs.Qxb6003391a
/- THE CELL 'sum', in the pinned program and in every row, IS THE sha256 OF THE DUMP (.gsa) THAT Qxb6003391aProg.lean LOADS. Nothing in Lean hashes anything: it is a label: what it is worth is what the hold of that sum in a sandbox is worth. -/
noncomputable def Try.pinned : Pinned := { name := "qxb6003391a", sum := "ffd32ce6797f2ea51d6c4a70647214cf470ef9aaccb52ba4cc7db5b3cecde32e", checked := Try.checked }
namespace Rows
def none {H : Type} : Left H := { results := [], args := [] }

/-- 'zzlaws_internal_order_g1.FnCompareStampsIsBigEndianByteOrder': WHATEVER THE INPUT: true; the input reads as it did. -/
def fnCompareStampsIsBigEndianByteOrderSpec : ChangeSpec := { name := "fnCompareStampsIsBigEndianByteOrder", fn := fun _ => fun
  | [d1, d2, d3, d4] => { results := [.lit (.bool true)], args := [d1, d2, d3, d4] }
  | _ => none }
def fnCompareStampsIsBigEndianByteOrderRow : OpenClaim := { program := "qxb6003391a", sum := "ffd32ce6797f2ea51d6c4a70647214cf470ef9aaccb52ba4cc7db5b3cecde32e", func := "example.com/antecede/antecede/zzlaws_internal_order_g1.FnCompareStampsIsBigEndianByteOrder", spec := "fnCompareStampsIsBigEndianByteOrder", apart := false }
def FnCompareStampsIsBigEndianByteOrderSaid : Prop := fnCompareStampsIsBigEndianByteOrderRow.holds Try.pinned (OpenSpec.ofChange fnCompareStampsIsBigEndianByteOrderSpec)

/-- ITS FALSE NEIGHBOUR: 'it returns false'. Refute it at one input. -/
def fnCompareStampsIsBigEndianByteOrderWrong : ChangeSpec := { name := "fnCompareStampsIsBigEndianByteOrder", fn := fun _ => fun
  | [d1, d2, d3, d4] => { results := [.lit (.bool false)], args := [d1, d2, d3, d4] }
  | _ => none }
def FnCompareStampsIsBigEndianByteOrderWrongFalsely : Prop := fnCompareStampsIsBigEndianByteOrderRow.holds Try.pinned (OpenSpec.ofChange fnCompareStampsIsBigEndianByteOrderWrong)

/-- 'zzlaws_internal_order_g1.FnPassedLatestIsTheLatestTimeBrought': WHATEVER THE INPUT: true; the input reads as it did. -/
def fnPassedLatestIsTheLatestTimeBroughtSpec : ChangeSpec := { name := "fnPassedLatestIsTheLatestTimeBrought", fn := fun _ => fun
  | [d1, d2, d3, d4] => { results := [.lit (.bool true)], args := [d1, d2, d3, d4] }
  | _ => none }
def fnPassedLatestIsTheLatestTimeBroughtRow : OpenClaim := { program := "qxb6003391a", sum := "ffd32ce6797f2ea51d6c4a70647214cf470ef9aaccb52ba4cc7db5b3cecde32e", func := "example.com/antecede/antecede/zzlaws_internal_order_g1.FnPassedLatestIsTheLatestTimeBrought", spec := "fnPassedLatestIsTheLatestTimeBrought", apart := false }
def FnPassedLatestIsTheLatestTimeBroughtSaid : Prop := fnPassedLatestIsTheLatestTimeBroughtRow.holds Try.pinned (OpenSpec.ofChange fnPassedLatestIsTheLatestTimeBroughtSpec)

/-- ITS FALSE NEIGHBOUR: 'it returns false'. Refute it at one input. -/
def fnPassedLatestIsTheLatestTimeBroughtWrong : ChangeSpec := { name := "fnPassedLatestIsTheLatestTimeBrought", fn := fun _ => fun
  | [d1, d2, d3, d4] => { results := [.lit (.bool false)], args := [d1, d2, d3, d4] }
  | _ => none }
def FnPassedLatestIsTheLatestTimeBroughtWrongFalsely : Prop := fnPassedLatestIsTheLatestTimeBroughtRow.holds Try.pinned (OpenSpec.ofChange fnPassedLatestIsTheLatestTimeBroughtWrong)

/-- 'zzlaws_internal_order_g1.FnJumpTakeCountsDownToZero': WHATEVER THE INPUT: true; the input reads as it did. -/
def fnJumpTakeCountsDownToZeroSpec : ChangeSpec := { name := "fnJumpTakeCountsDownToZero", fn := fun _ => fun
  | [d1, d2, d3, d4, d5] => { results := [.lit (.bool true)], args := [d1, d2, d3, d4, d5] }
  | _ => none }
def fnJumpTakeCountsDownToZeroRow : OpenClaim := { program := "qxb6003391a", sum := "ffd32ce6797f2ea51d6c4a70647214cf470ef9aaccb52ba4cc7db5b3cecde32e", func := "example.com/antecede/antecede/zzlaws_internal_order_g1.FnJumpTakeCountsDownToZero", spec := "fnJumpTakeCountsDownToZero", apart := false }
def FnJumpTakeCountsDownToZeroSaid : Prop := fnJumpTakeCountsDownToZeroRow.holds Try.pinned (OpenSpec.ofChange fnJumpTakeCountsDownToZeroSpec)

/-- ITS FALSE NEIGHBOUR: 'it returns false'. Refute it at one input. -/
def fnJumpTakeCountsDownToZeroWrong : ChangeSpec := { name := "fnJumpTakeCountsDownToZero", fn := fun _ => fun
  | [d1, d2, d3, d4, d5] => { results := [.lit (.bool false)], args := [d1, d2, d3, d4, d5] }
  | _ => none }
def FnJumpTakeCountsDownToZeroWrongFalsely : Prop := fnJumpTakeCountsDownToZeroRow.holds Try.pinned (OpenSpec.ofChange fnJumpTakeCountsDownToZeroWrong)

/-- 'zzlaws_internal_order_g1.FnTraceRunPeerIsOneStatePerMember': WHATEVER THE INPUT: true; the input reads as it did. -/
def fnTraceRunPeerIsOneStatePerMemberSpec : ChangeSpec := { name := "fnTraceRunPeerIsOneStatePerMember", fn := fun _ => fun
  | [d] => { results := [.lit (.bool true)], args := [d] }
  | _ => none }
def fnTraceRunPeerIsOneStatePerMemberRow : OpenClaim := { program := "qxb6003391a", sum := "ffd32ce6797f2ea51d6c4a70647214cf470ef9aaccb52ba4cc7db5b3cecde32e", func := "example.com/antecede/antecede/zzlaws_internal_order_g1.FnTraceRunPeerIsOneStatePerMember", spec := "fnTraceRunPeerIsOneStatePerMember", apart := false }
def FnTraceRunPeerIsOneStatePerMemberSaid : Prop := fnTraceRunPeerIsOneStatePerMemberRow.holds Try.pinned (OpenSpec.ofChange fnTraceRunPeerIsOneStatePerMemberSpec)

/-- ITS FALSE NEIGHBOUR: 'it returns false'. Refute it at one input. -/
def fnTraceRunPeerIsOneStatePerMemberWrong : ChangeSpec := { name := "fnTraceRunPeerIsOneStatePerMember", fn := fun _ => fun
  | [d] => { results := [.lit (.bool false)], args := [d] }
  | _ => none }
def FnTraceRunPeerIsOneStatePerMemberWrongFalsely : Prop := fnTraceRunPeerIsOneStatePerMemberRow.holds Try.pinned (OpenSpec.ofChange fnTraceRunPeerIsOneStatePerMemberWrong)

/-- 'zzlaws_internal_sim_g1.FnDiameterIsLongestFiniteShortestPath': WHATEVER THE INPUT: true; the input reads as it did. -/
def fnDiameterIsLongestFiniteShortestPathSpec : ChangeSpec := { name := "fnDiameterIsLongestFiniteShortestPath", fn := fun _ => fun
  | [d1, d2, d3] => { results := [.lit (.bool true)], args := [d1, d2, d3] }
  | _ => none }
def fnDiameterIsLongestFiniteShortestPathRow : OpenClaim := { program := "qxb6003391a", sum := "ffd32ce6797f2ea51d6c4a70647214cf470ef9aaccb52ba4cc7db5b3cecde32e", func := "example.com/antecede/antecede/zzlaws_internal_sim_g1.FnDiameterIsLongestFiniteShortestPath", spec := "fnDiameterIsLongestFiniteShortestPath", apart := false }
def FnDiameterIsLongestFiniteShortestPathSaid : Prop := fnDiameterIsLongestFiniteShortestPathRow.holds Try.pinned (OpenSpec.ofChange fnDiameterIsLongestFiniteShortestPathSpec)

/-- ITS FALSE NEIGHBOUR: 'it returns false'. Refute it at one input. -/
def fnDiameterIsLongestFiniteShortestPathWrong : ChangeSpec := { name := "fnDiameterIsLongestFiniteShortestPath", fn := fun _ => fun
  | [d1, d2, d3] => { results := [.lit (.bool false)], args := [d1, d2, d3] }
  | _ => none }
def FnDiameterIsLongestFiniteShortestPathWrongFalsely : Prop := fnDiameterIsLongestFiniteShortestPathRow.holds Try.pinned (OpenSpec.ofChange fnDiameterIsLongestFiniteShortestPathWrong)

/-- 'zzlaws_internal_sim_g1.FnTallyCountsGrantsOverlapsAndOrder': WHATEVER THE INPUT: true; the input reads as it did. -/
def fnTallyCountsGrantsOverlapsAndOrderSpec : ChangeSpec := { name := "fnTallyCountsGrantsOverlapsAndOrder", fn := fun _ => fun
  | [d1, d2, d3] => { results := [.lit (.bool true)], args := [d1, d2, d3] }
  | _ => none }
def fnTallyCountsGrantsOverlapsAndOrderRow : OpenClaim := { program := "qxb6003391a", sum := "ffd32ce6797f2ea51d6c4a70647214cf470ef9aaccb52ba4cc7db5b3cecde32e", func := "example.com/antecede/antecede/zzlaws_internal_sim_g1.FnTallyCountsGrantsOverlapsAndOrder", spec := "fnTallyCountsGrantsOverlapsAndOrder", apart := false }
def FnTallyCountsGrantsOverlapsAndOrderSaid : Prop := fnTallyCountsGrantsOverlapsAndOrderRow.holds Try.pinned (OpenSpec.ofChange fnTallyCountsGrantsOverlapsAndOrderSpec)

/-- ITS FALSE NEIGHBOUR: 'it returns false'. Refute it at one input. -/
def fnTallyCountsGrantsOverlapsAndOrderWrong : ChangeSpec := { name := "fnTallyCountsGrantsOverlapsAndOrder", fn := fun _ => fun
  | [d1, d2, d3] => { results := [.lit (.bool false)], args := [d1, d2, d3] }
  | _ => none }
def FnTallyCountsGrantsOverlapsAndOrderWrongFalsely : Prop := fnTallyCountsGrantsOverlapsAndOrderRow.holds Try.pinned (OpenSpec.ofChange fnTallyCountsGrantsOverlapsAndOrderWrong)

end Rows
end Go.Proofs.Qxb6003391a
