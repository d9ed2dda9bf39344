/-
  No cell of these rows narrows 'for every input' (looked for: loops, veiled, ifaces, maps, wideKeys, modest, calm, conditions, laid).
  DERIVED. THE GIVEN ROWS OF THIS SEAT. 2 by the template 'for every input the law returns true; each argument reads behind the call as it read before'; 0 by the template 'total and deterministic' (their statements: Qxb6604477aTotals.lean).
  GIVEN WITH THE SEED: the statements are not yours to turn. If you find one false, say at which input.
  Laid BY PROGRAM, IN A SANDBOX (cutbox-rows.mjs): the forced cells as the released guide's own fill.sh prints them over the translation 4b2afee2621e36af… (all of the seat's roots in one cut). By AI agents, Wed Nov 11 2026. No macro, syntax, notation, axiom, sorry.
-/
import Derived.Test.Qxb6604477aChecked
import GoSem.Claim
import GoSem.ClaimJoined
import GoSem.ClaimMapViews
import Derived.JoinedTies
import Derived.KernelRfl
namespace Go.Proofs.Qxb6604477a
/- THE CELL 'sum', in the pinned program and in every row, IS THE sha256 OF THE DUMP (.gsa) THAT Qxb6604477aProg.lean LOADS. Nothing in Lean hashes anything: it is a label: what it is worth is what the hold of that sum in a sandbox is worth. -/
noncomputable def Try.pinned : Pinned := { name := "qxb6604477a", sum := "4b2afee2621e36af08124cc1e65fc478e5b0bf0d3e9b45f4a65738b62f8926e7", checked := Try.checked }
namespace Rows
def none {H : Type} : Left H := { results := [], args := [] }

/-- 'zzlaws_root_b1.FnMessageBytesPerPart': WHATEVER THE INPUT: true; the input reads as it did. -/
def fnMessageBytesPerPartSpec : ChangeSpec := { name := "fnMessageBytesPerPart", fn := fun _ => fun
  | [d1, d2, d3] => { results := [.lit (.bool true)], args := [d1, d2, d3] }
  | _ => none }
def fnMessageBytesPerPartRow : OpenClaim := { program := "qxb6604477a", sum := "4b2afee2621e36af08124cc1e65fc478e5b0bf0d3e9b45f4a65738b62f8926e7", func := "example.com/loyal-quorum/loyal-quorum/zzlaws_root_b1.FnMessageBytesPerPart", spec := "fnMessageBytesPerPart", apart := false }
def FnMessageBytesPerPartSaid : Prop := fnMessageBytesPerPartRow.holds Try.pinned (OpenSpec.ofChange fnMessageBytesPerPartSpec)

/-- ITS FALSE NEIGHBOUR: 'it returns false'. Refute it at one input. -/
def fnMessageBytesPerPartWrong : ChangeSpec := { name := "fnMessageBytesPerPart", fn := fun _ => fun
  | [d1, d2, d3] => { results := [.lit (.bool false)], args := [d1, d2, d3] }
  | _ => none }
def FnMessageBytesPerPartWrongFalsely : Prop := fnMessageBytesPerPartRow.holds Try.pinned (OpenSpec.ofChange fnMessageBytesPerPartWrong)

/-- 'zzlaws_root_b1.FnMessageBytesSplitAddsOneHead': WHATEVER THE INPUT: true; the input reads as it did. -/
def fnMessageBytesSplitAddsOneHeadSpec : ChangeSpec := { name := "fnMessageBytesSplitAddsOneHead", fn := fun _ => fun
  | [d1, d2, d3, d4, d5, d6] => { results := [.lit (.bool true)], args := [d1, d2, d3, d4, d5, d6] }
  | _ => none }
def fnMessageBytesSplitAddsOneHeadRow : OpenClaim := { program := "qxb6604477a", sum := "4b2afee2621e36af08124cc1e65fc478e5b0bf0d3e9b45f4a65738b62f8926e7", func := "example.com/loyal-quorum/loyal-quorum/zzlaws_root_b1.FnMessageBytesSplitAddsOneHead", spec := "fnMessageBytesSplitAddsOneHead", apart := false }
def FnMessageBytesSplitAddsOneHeadSaid : Prop := fnMessageBytesSplitAddsOneHeadRow.holds Try.pinned (OpenSpec.ofChange fnMessageBytesSplitAddsOneHeadSpec)

/-- ITS FALSE NEIGHBOUR: 'it returns false'. Refute it at one input. -/
def fnMessageBytesSplitAddsOneHeadWrong : ChangeSpec := { name := "fnMessageBytesSplitAddsOneHead", fn := fun _ => fun
  | [d1, d2, d3, d4, d5, d6] => { results := [.lit (.bool false)], args := [d1, d2, d3, d4, d5, d6] }
  | _ => none }
def FnMessageBytesSplitAddsOneHeadWrongFalsely : Prop := fnMessageBytesSplitAddsOneHeadRow.holds Try.pinned (OpenSpec.ofChange fnMessageBytesSplitAddsOneHeadWrong)

end Rows
end Go.Proofs.Qxb6604477a
