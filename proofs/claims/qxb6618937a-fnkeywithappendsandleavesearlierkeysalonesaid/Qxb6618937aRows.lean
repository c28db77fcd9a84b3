/-
  No cell of these rows narrows 'for every input' (looked for: loops, veiled, ifaces, maps, wideKeys, modest, calm, conditions, laid).
  DERIVED. THE GIVEN ROWS OF THIS SEAT. 1 by the template 'for every input the law returns true; each argument reads behind the call as it read before'; 0 by the template 'total and deterministic' (their statements: Qxb6618937aTotals.lean).
  GIVEN WITH THE SEED: the statements are not yours to turn. If you find one false, say at which input.
  Laid BY PROGRAM, IN A SANDBOX (cutbox-rows.mjs): the forced cells as the released guide's own fill.sh prints them over the translation 437c2216f477fb78… (all of the seat's roots in one cut). By AI agents, Wed Nov 11 2026. No macro, syntax, notation, axiom, sorry.
-/
import Derived.Test.Qxb6618937aChecked
import GoSem.Claim
import GoSem.ClaimJoined
import GoSem.ClaimMapViews
import Derived.JoinedTies
import Derived.KernelRfl
namespace Go.Proofs.Qxb6618937a
/- THE CELL 'sum', in the pinned program and in every row, IS THE sha256 OF THE DUMP (.gsa) THAT Qxb6618937aProg.lean LOADS. Nothing in Lean hashes anything: it is a label: what it is worth is what the hold of that sum in a sandbox is worth. -/
noncomputable def Try.pinned : Pinned := { name := "qxb6618937a", sum := "437c2216f477fb787ced3d6a35c77f912406f9ba708a5f27984d9e8ca9cd82a7", checked := Try.checked }
namespace Rows
def none {H : Type} : Left H := { results := [], args := [] }

/-- 'zzlaws_internal_input_b1.FnKeyWithAppendsAndLeavesEarlierKeysAlone': WHATEVER THE INPUT: true; the input reads as it did. -/
def fnKeyWithAppendsAndLeavesEarlierKeysAloneSpec : ChangeSpec := { name := "fnKeyWithAppendsAndLeavesEarlierKeysAlone", fn := fun _ => fun
  | [d1, d2, d3, d4] => { results := [.lit (.bool true)], args := [d1, d2, d3, d4] }
  | _ => none }
def fnKeyWithAppendsAndLeavesEarlierKeysAloneRow : OpenClaim := { program := "qxb6618937a", sum := "437c2216f477fb787ced3d6a35c77f912406f9ba708a5f27984d9e8ca9cd82a7", func := "example.com/gavelkeep/gavelkeep/zzlaws_internal_input_b1.FnKeyWithAppendsAndLeavesEarlierKeysAlone", spec := "fnKeyWithAppendsAndLeavesEarlierKeysAlone", apart := false }
def FnKeyWithAppendsAndLeavesEarlierKeysAloneSaid : Prop := fnKeyWithAppendsAndLeavesEarlierKeysAloneRow.holds Try.pinned (OpenSpec.ofChange fnKeyWithAppendsAndLeavesEarlierKeysAloneSpec)

/-- ITS FALSE NEIGHBOUR: 'it returns false'. Refute it at one input. -/
def fnKeyWithAppendsAndLeavesEarlierKeysAloneWrong : ChangeSpec := { name := "fnKeyWithAppendsAndLeavesEarlierKeysAlone", fn := fun _ => fun
  | [d1, d2, d3, d4] => { results := [.lit (.bool false)], args := [d1, d2, d3, d4] }
  | _ => none }
def FnKeyWithAppendsAndLeavesEarlierKeysAloneWrongFalsely : Prop := fnKeyWithAppendsAndLeavesEarlierKeysAloneRow.holds Try.pinned (OpenSpec.ofChange fnKeyWithAppendsAndLeavesEarlierKeysAloneWrong)

end Rows
end Go.Proofs.Qxb6618937a
