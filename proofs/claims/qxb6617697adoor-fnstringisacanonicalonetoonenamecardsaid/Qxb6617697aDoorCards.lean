/-
  DERIVED. GIVEN WITH THE SEED: THE CARDS: each row of Qxb6617697aDoorRows.lean that lists a variable, with what it lists TIED to the program's text (the seventh form; the later family's looks); each row that meets fmt, with fmt's text TOLD by the authors' own Lean function (tested against real Go, not proved from fmt's source: count such statements apart). THE CARD IS WHAT COUNTS. Prove the row's statement (the work); the ties are given (Qxb6617697aDoorTie.lean); close each card by the builder's one call (the guide's Derived/Test/ToyasCard.lean, 'card_holds'). Laid BY PROGRAM, IN A SANDBOX (cutbox-door.mjs). By AI agents, Wed Nov 11 2026. No macro, syntax, notation, axiom, sorry.
-/
import Derived.Test.Qxb6617697aDoorRows
import GoSem.ClaimSeven
namespace Go.Proofs.Qxb6617697aDoor
namespace Rows

/-- THE TIED CARD OF 'zzlaws_root_b1.FnStringIsACanonicalOneToOneName'. -/
def fnStringIsACanonicalOneToOneNameCard : Claim7 := { stood := { row := fnStringIsACanonicalOneToOneNameRow, standIns := [], harness := (true, "ad2b1b76922a3addd2142ffbe08392b9b8c2d49bd4885e38736c46f6bcaa51c0"), looks := false }, kinds := [], alts := [], laidByText := true, laidKinds := [.data, .data, .data], laidTests := true, laidLooks := .later }
def FnStringIsACanonicalOneToOneNameCardSaid : Prop := Claim7.holds Tryd.pinned (.plain (OpenSpec.ofChange fnStringIsACanonicalOneToOneNameSpec)) fnStringIsACanonicalOneToOneNameCard
end Rows
end Go.Proofs.Qxb6617697aDoor
