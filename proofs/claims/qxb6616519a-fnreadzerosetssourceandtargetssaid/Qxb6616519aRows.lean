/-
  No cell of these rows narrows 'for every input' (looked for: loops, veiled, ifaces, maps, wideKeys, modest, calm, conditions, laid).
  DERIVED. THE GIVEN ROWS OF THIS SEAT. 4 by the template 'for every input the law returns true; each argument reads behind the call as it read before'; 0 by the template 'total and deterministic' (their statements: Qxb6616519aTotals.lean).
  GIVEN WITH THE SEED: the statements are not yours to turn. If you find one false, say at which input.
  Laid BY PROGRAM, IN A SANDBOX (cutbox-rows.mjs): the forced cells as the released guide's own fill.sh prints them over the translation f1f1e520e69faddd… (all of the seat's roots in one cut). By AI agents, Wed Nov 11 2026. No macro, syntax, notation, axiom, sorry.
-/
import Derived.Test.Qxb6616519aChecked
import GoSem.Claim
import GoSem.ClaimJoined
import GoSem.ClaimMapViews
import Derived.JoinedTies
import Derived.KernelRfl
namespace Go.Proofs.Qxb6616519a
/- THE CELL 'sum', in the pinned program and in every row, IS THE sha256 OF THE DUMP (.gsa) THAT Qxb6616519aProg.lean LOADS. Nothing in Lean hashes anything: it is a label: what it is worth is what the hold of that sum in a sandbox is worth. -/
noncomputable def Try.pinned : Pinned := { name := "qxb6616519a", sum := "f1f1e520e69faddd1e9a5c91342ac60779dbcde49b2e518ed5db3eb71e3153de", checked := Try.checked }
namespace Rows
def none {H : Type} : Left H := { results := [], args := [] }

/-- 'zzlaws_root_b1.FnReadZeroSetsSourceAndTargets': WHATEVER THE INPUT: true; the input reads as it did. -/
def fnReadZeroSetsSourceAndTargetsSpec : ChangeSpec := { name := "fnReadZeroSetsSourceAndTargets", fn := fun _ => fun
  | [d1, d2, d3, d4, d5] => { results := [.lit (.bool true)], args := [d1, d2, d3, d4, d5] }
  | _ => none }
def fnReadZeroSetsSourceAndTargetsRow : OpenClaim := { program := "qxb6616519a", sum := "f1f1e520e69faddd1e9a5c91342ac60779dbcde49b2e518ed5db3eb71e3153de", func := "example.com/visarion/visarion/zzlaws_root_b1.FnReadZeroSetsSourceAndTargets", spec := "fnReadZeroSetsSourceAndTargets", plainKeys := false, apart := false }
def FnReadZeroSetsSourceAndTargetsSaid : Prop := fnReadZeroSetsSourceAndTargetsRow.holds Try.pinned (OpenSpec.ofChange fnReadZeroSetsSourceAndTargetsSpec)

/-- ITS FALSE NEIGHBOUR: 'it returns false'. Refute it at one input. -/
def fnReadZeroSetsSourceAndTargetsWrong : ChangeSpec := { name := "fnReadZeroSetsSourceAndTargets", fn := fun _ => fun
  | [d1, d2, d3, d4, d5] => { results := [.lit (.bool false)], args := [d1, d2, d3, d4, d5] }
  | _ => none }
def FnReadZeroSetsSourceAndTargetsWrongFalsely : Prop := fnReadZeroSetsSourceAndTargetsRow.holds Try.pinned (OpenSpec.ofChange fnReadZeroSetsSourceAndTargetsWrong)

/-- 'zzlaws_root_b1.FnReadZeroAgainAddsNoTarget': WHATEVER THE INPUT: true; the input reads as it did. -/
def fnReadZeroAgainAddsNoTargetSpec : ChangeSpec := { name := "fnReadZeroAgainAddsNoTarget", fn := fun _ => fun
  | [d1, d2, d3, d4, d5] => { results := [.lit (.bool true)], args := [d1, d2, d3, d4, d5] }
  | _ => none }
def fnReadZeroAgainAddsNoTargetRow : OpenClaim := { program := "qxb6616519a", sum := "f1f1e520e69faddd1e9a5c91342ac60779dbcde49b2e518ed5db3eb71e3153de", func := "example.com/visarion/visarion/zzlaws_root_b1.FnReadZeroAgainAddsNoTarget", spec := "fnReadZeroAgainAddsNoTarget", plainKeys := false, apart := false }
def FnReadZeroAgainAddsNoTargetSaid : Prop := fnReadZeroAgainAddsNoTargetRow.holds Try.pinned (OpenSpec.ofChange fnReadZeroAgainAddsNoTargetSpec)

/-- ITS FALSE NEIGHBOUR: 'it returns false'. Refute it at one input. -/
def fnReadZeroAgainAddsNoTargetWrong : ChangeSpec := { name := "fnReadZeroAgainAddsNoTarget", fn := fun _ => fun
  | [d1, d2, d3, d4, d5] => { results := [.lit (.bool false)], args := [d1, d2, d3, d4, d5] }
  | _ => none }
def FnReadZeroAgainAddsNoTargetWrongFalsely : Prop := fnReadZeroAgainAddsNoTargetRow.holds Try.pinned (OpenSpec.ofChange fnReadZeroAgainAddsNoTargetWrong)

/-- 'zzlaws_root_b1.FnFreshAnswersFirstSight': WHATEVER THE INPUT: true; the input reads as it did. -/
def fnFreshAnswersFirstSightSpec : ChangeSpec := { name := "fnFreshAnswersFirstSight", fn := fun _ => fun
  | [d1, d2] => { results := [.lit (.bool true)], args := [d1, d2] }
  | _ => none }
def fnFreshAnswersFirstSightRow : OpenClaim := { program := "qxb6616519a", sum := "f1f1e520e69faddd1e9a5c91342ac60779dbcde49b2e518ed5db3eb71e3153de", func := "example.com/visarion/visarion/zzlaws_root_b1.FnFreshAnswersFirstSight", spec := "fnFreshAnswersFirstSight", plainKeys := false, apart := false }
def FnFreshAnswersFirstSightSaid : Prop := fnFreshAnswersFirstSightRow.holds Try.pinned (OpenSpec.ofChange fnFreshAnswersFirstSightSpec)

/-- ITS FALSE NEIGHBOUR: 'it returns false'. Refute it at one input. -/
def fnFreshAnswersFirstSightWrong : ChangeSpec := { name := "fnFreshAnswersFirstSight", fn := fun _ => fun
  | [d1, d2] => { results := [.lit (.bool false)], args := [d1, d2] }
  | _ => none }
def FnFreshAnswersFirstSightWrongFalsely : Prop := fnFreshAnswersFirstSightRow.holds Try.pinned (OpenSpec.ofChange fnFreshAnswersFirstSightWrong)

/-- 'zzlaws_root_b1.FnFreshForgetsNoName': WHATEVER THE INPUT: true; the input reads as it did. -/
def fnFreshForgetsNoNameSpec : ChangeSpec := { name := "fnFreshForgetsNoName", fn := fun _ => fun
  | [d] => { results := [.lit (.bool true)], args := [d] }
  | _ => none }
def fnFreshForgetsNoNameRow : OpenClaim := { program := "qxb6616519a", sum := "f1f1e520e69faddd1e9a5c91342ac60779dbcde49b2e518ed5db3eb71e3153de", func := "example.com/visarion/visarion/zzlaws_root_b1.FnFreshForgetsNoName", spec := "fnFreshForgetsNoName", plainKeys := false, apart := false }
def FnFreshForgetsNoNameSaid : Prop := fnFreshForgetsNoNameRow.holds Try.pinned (OpenSpec.ofChange fnFreshForgetsNoNameSpec)

/-- ITS FALSE NEIGHBOUR: 'it returns false'. Refute it at one input. -/
def fnFreshForgetsNoNameWrong : ChangeSpec := { name := "fnFreshForgetsNoName", fn := fun _ => fun
  | [d] => { results := [.lit (.bool false)], args := [d] }
  | _ => none }
def FnFreshForgetsNoNameWrongFalsely : Prop := fnFreshForgetsNoNameRow.holds Try.pinned (OpenSpec.ofChange fnFreshForgetsNoNameWrong)

end Rows
end Go.Proofs.Qxb6616519a
