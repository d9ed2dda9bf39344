/-
  No cell of these rows narrows 'for every input' (looked for: loops, veiled, ifaces, maps, wideKeys, modest, calm, conditions, laid).
  DERIVED. THE GIVEN ROWS OF THIS SEAT. 2 by the template 'for every input the law returns true; each argument reads behind the call as it read before'; 0 by the template 'total and deterministic' (their statements: Qxb6603530aTotals.lean).
  GIVEN WITH THE SEED: the statements are not yours to turn. If you find one false, say at which input.
  Laid BY PROGRAM, IN A SANDBOX (cutbox-rows.mjs): the forced cells as the released guide's own fill.sh prints them over the translation 29a15f7cecbc2d63… (all of the seat's roots in one cut). By AI agents, Wed Nov 11 2026. No macro, syntax, notation, axiom, sorry.
-/
import Derived.Test.Qxb6603530aChecked
import GoSem.Claim
import GoSem.ClaimJoined
import GoSem.ClaimMapViews
import Derived.JoinedTies
import Derived.KernelRfl
namespace Go.Proofs.Qxb6603530a
/- THE CELL 'sum', in the pinned program and in every row, IS THE sha256 OF THE DUMP (.gsa) THAT Qxb6603530aProg.lean LOADS. Nothing in Lean hashes anything: it is a label: what it is worth is what the hold of that sum in a sandbox is worth. -/
noncomputable def Try.pinned : Pinned := { name := "qxb6603530a", sum := "29a15f7cecbc2d63e1599a0fcfcc06709850dce6c2c899b2141c3b654e4e2171", checked := Try.checked }
namespace Rows
def none {H : Type} : Left H := { results := [], args := [] }

/-- 'zzlaws_usage_b1.FnEventSetAddCountsEachKeyOnce': WHATEVER THE INPUT: true; the input reads as it did. -/
def fnEventSetAddCountsEachKeyOnceSpec : ChangeSpec := { name := "fnEventSetAddCountsEachKeyOnce", fn := fun _ => fun
  | [d] => { results := [.lit (.bool true)], args := [d] }
  | _ => none }
def fnEventSetAddCountsEachKeyOnceRow : OpenClaim := { program := "qxb6603530a", sum := "29a15f7cecbc2d63e1599a0fcfcc06709850dce6c2c899b2141c3b654e4e2171", func := "example.com/tallygate/tallygate/zzlaws_usage_b1.FnEventSetAddCountsEachKeyOnce", spec := "fnEventSetAddCountsEachKeyOnce", plainKeys := false, apart := false }
def FnEventSetAddCountsEachKeyOnceSaid : Prop := fnEventSetAddCountsEachKeyOnceRow.holds Try.pinned (OpenSpec.ofChange fnEventSetAddCountsEachKeyOnceSpec)

/-- ITS FALSE NEIGHBOUR: 'it returns false'. Refute it at one input. -/
def fnEventSetAddCountsEachKeyOnceWrong : ChangeSpec := { name := "fnEventSetAddCountsEachKeyOnce", fn := fun _ => fun
  | [d] => { results := [.lit (.bool false)], args := [d] }
  | _ => none }
def FnEventSetAddCountsEachKeyOnceWrongFalsely : Prop := fnEventSetAddCountsEachKeyOnceRow.holds Try.pinned (OpenSpec.ofChange fnEventSetAddCountsEachKeyOnceWrong)

/-- 'zzlaws_usage_b1.FnEventSetAddKeepsEachSourceInItsTier': WHATEVER THE INPUT: true; the input reads as it did. -/
def fnEventSetAddKeepsEachSourceInItsTierSpec : ChangeSpec := { name := "fnEventSetAddKeepsEachSourceInItsTier", fn := fun _ => fun
  | [d] => { results := [.lit (.bool true)], args := [d] }
  | _ => none }
def fnEventSetAddKeepsEachSourceInItsTierRow : OpenClaim := { program := "qxb6603530a", sum := "29a15f7cecbc2d63e1599a0fcfcc06709850dce6c2c899b2141c3b654e4e2171", func := "example.com/tallygate/tallygate/zzlaws_usage_b1.FnEventSetAddKeepsEachSourceInItsTier", spec := "fnEventSetAddKeepsEachSourceInItsTier", plainKeys := false, apart := false }
def FnEventSetAddKeepsEachSourceInItsTierSaid : Prop := fnEventSetAddKeepsEachSourceInItsTierRow.holds Try.pinned (OpenSpec.ofChange fnEventSetAddKeepsEachSourceInItsTierSpec)

/-- ITS FALSE NEIGHBOUR: 'it returns false'. Refute it at one input. -/
def fnEventSetAddKeepsEachSourceInItsTierWrong : ChangeSpec := { name := "fnEventSetAddKeepsEachSourceInItsTier", fn := fun _ => fun
  | [d] => { results := [.lit (.bool false)], args := [d] }
  | _ => none }
def FnEventSetAddKeepsEachSourceInItsTierWrongFalsely : Prop := fnEventSetAddKeepsEachSourceInItsTierRow.holds Try.pinned (OpenSpec.ofChange fnEventSetAddKeepsEachSourceInItsTierWrong)

end Rows
end Go.Proofs.Qxb6603530a
