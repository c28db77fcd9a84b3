/-
  The row: the listed table opened, the walk, the shutting; under strconv.Itoa's contract ('ItoaSays').
-/
import Derived.Test.Qxb6617697aDoorTop
import Derived.ProofKit
import Derived.LaidMore
import Derived.OpenShut
import Derived.Stop.Joined
namespace Go.Proofs.Qxb6617697aDoor
open Go.ChangeShapes Go.WideShapes Go.ChangeAt Go.WideMaps Go.WideElems Go.RowKit

theorem own : ownKnob Tryd.prog.godebug = none := by kernel_rfl
theorem g0 : Tryd.prog.globalNamed powName = some 0 := by kernel_rfl
theorem t0 : (Tryd.prog.globals[0]?).map (·.type) = some 37 := by kernel_rfl
theorem cells27 : Tryd.prog.cellsOf 27 = 1 := by kernel_rfl
theorem cells37 : Tryd.prog.cellsOf 37 = 20 := by kernel_rfl

theorem door_met (os : Os) (args : Array Value) : laidMetH Tryd.prog Rows.fnStringIsACanonicalOneToOneNameRow.laid ((World.doorLaid Tryd.prog 24 os).forCall (fun _ _ => 0) ⟨#[], args, []⟩).memory :=
  laidMetH_of_parts3 (fuel := 8) (laidMet_of_run' 8 (by kernel_rfl) (by kernel_rfl)) (by kernel_rfl) (by kernel_rfl)

theorem pow_datum : (Rows.laid_internal_strconv_uint64pow10 : DataW Unit) = Lib.tabData .u64 Lib.pow10Tab := rfl

theorem of_laid {W : World} (h : laidMetH Tryd.prog Rows.fnStringIsACanonicalOneToOneNameRow.laid W) : Tab W ∧ 0 < W.heap.size := by
  rw [MakeChecks.laidMetH_plain _ _ _ (by kernel_rfl)] at h
  obtain ⟨ps, ⟨_, _, _, _, _, _, _, _, _, _, ⟨_, _, _, _, _, _, _, _, _, _, ⟨g', t', cs, fuel, p, q, hg', ht', hvar, hd, _, _⟩, _⟩, _⟩, _⟩ := h
  obtain rfl := Option.some.inj (g0.symm.trans hg')
  obtain rfl := Option.some.inj (t0.symm.trans ht')
  have hT : Tab W := by
    rw [pow_datum] at hd
    unfold Tab Lib.TabIs
    refine hvar.trans ?_
    rw [← Lib.cells_of_tab Tryd.underlying37 Tryd.underlying27 cells27 cells37 hd]
  refine ⟨hT, ?_⟩
  have hc := Lib.TabIs.cell hT g0 0 (by decide)
  have hb : ∀ o, W.heap[0]? = some o → 0 < W.heap.size := fun o ho => by
    have := Array.getElem?_eq_some_iff.1 ho
    exact this.1
  cases hh : W.heap[0]? with
  | none => simp [World.cell?, hh] at hc
  | some o => exact hb o hh

set_option maxRecDepth 100000 in
theorem lifted (hI : ItoaSays) (os : Os) (started : os.Started) (H : Type) (enc : TypeId × Value → H) :
    ReturnsInHanded {} Tryd.checked os 3 .any (fun w args => (Rows.fnStringIsACanonicalOneToOneNameSpec.pre enc Tryd.prog Tryd.f3 [] false w args ∧ laidMetH Tryd.prog Rows.fnStringIsACanonicalOneToOneNameRow.laid w) ∧ sizedMet enc Tryd.prog Tryd.f3 (OpenSpec.ofChange Rows.fnStringIsACanonicalOneToOneNameSpec) false w args)
      (Rows.fnStringIsACanonicalOneToOneNameSpec.post enc Tryd.prog Tryd.f3 false true false false) := by
  refine returnsInHanded_of_change_and (C := Tryd.checked) (X := fun w _ => laidMetH Tryd.prog Rows.fnStringIsACanonicalOneToOneNameRow.laid w) (fun _ _ _ hh h => h.of_heap hh) own started (by kernel_rfl) Tryd.func3
    (ChangeSpec.witness_shaped (enc := enc) (C := Tryd.checked) (os := os) (X := fun w _ => laidMetH Tryd.prog Rows.fnStringIsACanonicalOneToOneNameRow.laid w) false (World.doorLaid Tryd.prog 24 os) #[.int .i64 0, .int .i64 0] 8 rfl (World.shaped_of_RefB (by kernel_rfl) (by kernel_rfl)) (by kernel_rfl) (by kernel_rfl) (by kernel_rfl) (door_met os _)) ?_
  intro W base args ds gs before hval0 hW _ _ hL _
  have hval : ∀ (j : Nat) t v, Tryd.f3.params[j]? = some t → args[j]? = some v → Value.okWide Tryd.prog W .any base t v := hval0
  have hW' := hW
  obtain ⟨p, q, hA0, hV, rfl, hfz, hnd⟩ := hW
  have hA : DataW.TrodAll enc Tryd.prog W 0 (fun _ => true) true Tryd.f3.params.toList args.toList ds p := hA0
  rw [Tryd.params3] at hA hval
  obtain ⟨v0, v1, d0, d1, p0, p1, rfl, rfl, rfl, h0, h1⟩ := trodAll_two hA
  obtain ⟨rfl, rfl⟩ := trodVars_none hV
  obtain ⟨a, rfl, rfl, rfl, wa⟩ := open_int Tryd.underlying3 (hval 0 3 v0 rfl rfl) h0
  obtain ⟨b, rfl, rfl, rfl, wb⟩ := open_int Tryd.underlying3 (hval 1 3 v1 rfl rfl) h1
  clear hA0 hval0
  simp only [List.append_nil] at hW'
  have bd : ∀ x : Int, (Lit.int .i64 x).wf = true → -9223372036854775808 ≤ x ∧ x ≤ 9223372036854775807 := fun x hx => by
    have e1 : IntKind.i64.min = -9223372036854775808 := rfl
    have e2 : IntKind.i64.max = 9223372036854775807 := rfl
    simp [Lit.wf, e1, e2] at hx
    omega
  obtain ⟨hT, hz⟩ := of_laid hL
  refine (law_any hI a b (bd a wa).1 (bd a wa).2 (bd b wb).1 (bd b wb).2 W hz hT).mono fun e W' ⟨he, hnx⟩ => ?_
  subst he
  refine ⟨_, rfl, _, _, _, [], [], [], hW', ?_, ?_, rfl, hnx.frame _, fun h => by cases h⟩
  · exact trodAll_mk1 (shut_bool Tryd.underlying4 _)
  · exact trodAll_mk2 (shut_int Tryd.underlying3 wa) (shut_int Tryd.underlying3 wb)

theorem row_holds (hI : ItoaSays) : Rows.FnStringIsACanonicalOneToOneNameSaid :=
  OpenClaim.holds_of_wide 3 Tryd.f3 rfl rfl rfl rfl rfl rfl rfl ⟨rfl, rfl, rfl, rfl, rfl⟩ rfl rfl rfl rfl rfl (by kernel_rfl) Tryd.func3 (by kernel_rfl)
    (of_decide_eq_true (by kernel_rfl)) (by unfold Func.isWrapper; first | (rw [if_pos (by decide +kernel)]; kernel_rfl) | (rw [if_neg (by decide +kernel)]; exact ⟨rfl, rfl⟩))
    (fun os started H enc _ => lifted hI os started H enc)
end Go.Proofs.Qxb6617697aDoor
