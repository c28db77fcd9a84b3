/-
  THE TIED CARD of FnStringIsACanonicalOneToOneName, closed by the builder out of the row, the given tie and the shelf contract of strconv.Itoa.
-/
import Derived.Test.Qxb6617697aDoorRow
import Derived.Test.Qxb6617697aDoorShelf
import Derived.Test.Qxb6617697aDoorTie
import Derived.Test.Qxb6617697aDoorCards
import Derived.SevenTiedAt
namespace Go.Proofs.Qxb6617697aDoor
open Go

theorem card_holds : Rows.FnStringIsACanonicalOneToOneNameCardSaid :=
  Claim7.holds_tied_plain_at .later [] [.data, .data, .data] true Rows.fnStringIsACanonicalOneToOneNameCard.stood.harness false
    (row_holds itoa_says) (fun _ h => by cases h) (by kernel_rfl) (fun _ h => by cases h) fnStringIsACanonicalOneToOneName_row_tie rfl ⟨rfl, rfl⟩ (by kernel_rfl) rfl
    (fun f fn hf hfn => by
      obtain rfl : f = 3 := Option.some.inj ((show Tryd.prog.funcNamed Rows.fnStringIsACanonicalOneToOneNameRow.func = some 3 by kernel_rfl).symm.trans hf) |>.symm
      obtain rfl : fn = Tryd.f3 := (Option.some.inj (Tryd.func3.symm.trans hfn)).symm
      exact ⟨by kernel_rfl, fun j t ht => by
        rw [Tryd.params3] at ht
        have hm : t ∈ [3, 3] := by simpa using Array.mem_of_getElem? ht
        have hall : ([3, 3].all fun u => !Tryd.prog.wantsStandIn u) = true := by kernel_rfl
        exact (show Tryd.prog.wantsStandIn t = false by simpa using List.all_eq_true.1 hall t hm)⟩)
    (by kernel_rfl)
end Go.Proofs.Qxb6617697aDoor
