/-
  No cell of these rows narrows 'for every input' (looked for: loops, veiled, ifaces, maps, wideKeys, modest, calm, conditions, laid).
  DERIVED. THE GIVEN ROWS OF THIS SEAT. 1 by the template 'for every input the law returns true; each argument reads behind the call as it read before'; 0 by the template 'total and deterministic' (their statements: Qxb6616350aTotals.lean).
  GIVEN WITH THE SEED: the statements are not yours to turn. If you find one false, say at which input.
  Laid BY PROGRAM, IN A SANDBOX (cutbox-rows.mjs): the forced cells as the released guide's own fill.sh prints them over the translation 624a918cc8ee730b… (all of the seat's roots in one cut). By AI agents, Wed Nov 11 2026. No macro, syntax, notation, axiom, sorry.
-/
import Derived.Test.Qxb6616350aChecked
import GoSem.Claim
import GoSem.ClaimJoined
import GoSem.ClaimMapViews
import Derived.JoinedTies
import Derived.KernelRfl
namespace Go.Proofs.Qxb6616350a
/- THE CELL 'sum', in the pinned program and in every row, IS THE sha256 OF THE DUMP (.gsa) THAT Qxb6616350aProg.lean LOADS. Nothing in Lean hashes anything: it is a label: what it is worth is what the hold of that sum in a sandbox is worth. -/
noncomputable def Try.pinned : Pinned := { name := "qxb6616350a", sum := "624a918cc8ee730b749dd738d92cd0e8e0f471f9d71539a11cab735d3142b6be", checked := Try.checked }
namespace Rows
def none {H : Type} : Left H := { results := [], args := [] }

/-- 'zzlaws_root_b1.FnBeginStateGivesFreshBuffers': WHATEVER THE INPUT: true; the input reads as it did. -/
def fnBeginStateGivesFreshBuffersSpec : ChangeSpec := { name := "fnBeginStateGivesFreshBuffers", fn := fun _ => fun
  | [d1, d2] => { results := [.lit (.bool true)], args := [d1, d2] }
  | _ => none }
def fnBeginStateGivesFreshBuffersRow : OpenClaim := { program := "qxb6616350a", sum := "624a918cc8ee730b749dd738d92cd0e8e0f471f9d71539a11cab735d3142b6be", func := "example.com/steady-bucket/steady-bucket/zzlaws_root_b1.FnBeginStateGivesFreshBuffers", spec := "fnBeginStateGivesFreshBuffers", apart := false }
def FnBeginStateGivesFreshBuffersSaid : Prop := fnBeginStateGivesFreshBuffersRow.holds Try.pinned (OpenSpec.ofChange fnBeginStateGivesFreshBuffersSpec)

/-- ITS FALSE NEIGHBOUR: 'it returns false'. Refute it at one input. -/
def fnBeginStateGivesFreshBuffersWrong : ChangeSpec := { name := "fnBeginStateGivesFreshBuffers", fn := fun _ => fun
  | [d1, d2] => { results := [.lit (.bool false)], args := [d1, d2] }
  | _ => none }
def FnBeginStateGivesFreshBuffersWrongFalsely : Prop := fnBeginStateGivesFreshBuffersRow.holds Try.pinned (OpenSpec.ofChange fnBeginStateGivesFreshBuffersWrong)

end Rows
end Go.Proofs.Qxb6616350a
