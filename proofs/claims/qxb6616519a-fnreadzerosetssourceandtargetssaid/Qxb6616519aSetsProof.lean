/-
  THE ROW of FnReadZeroSetsSourceAndTargetsSaid: each argument opened, the law's walk, the arguments handed back as they were.
-/
import Derived.Test.Qxb6616519aSets
import Derived.Test.Qxb6616519aView
namespace Go.Proofs.Qxb6616519a.sets
open Go.ChangeShapes Go.WideShapes Go.ChangeAt Go.RowKit Go.Deep
set_option linter.unusedVariables false

theorem sets_any (aO aZ aR aS aJ : Option Addr) (nO nZ nR nS nJ cO cZ cR cS cJ : Nat) (O Z R S J : Nat → Int) (w : World) (hO : IV w aO nO O) (hZ : IV w aZ nZ Z) (hR : IV w aR nR R) (hS : IV w aS nS S) (hJ : IV w aJ nJ J)
    (z1 : nO ≤ 140737488355328) (z2 : nZ ≤ 140737488355328) (z3 : nR ≤ 140737488355328) (z4 : nS ≤ 140737488355328) (z5 : nJ ≤ 140737488355328) :
    Calls Try.prog 3 #[.slice aO nO cO, .slice aZ nZ cZ, .slice aR nR cR, .slice aS nS cS, .slice aJ nJ cJ] w fun e w' => e = .returned (.bool true) ∧ Below w.heap.size w w' := by
  by_cases hw : nO ≤ 16384 ∧ nZ ≤ 16384 ∧ nR ≤ 16384 ∧ nS ≤ 16384 ∧ nJ ≤ 16384 ∧ nS = nR
  · obtain ⟨y1, y2, y3, _, y5, rfl⟩ := hw
    exact sets_small aO aZ aR aS aJ nO nZ nS nJ cO cZ cR cS cJ O Z R S J w hO hZ hR hS hJ y1 y2 y3 y5
  · exact sets_wide aO aZ aR aS aJ nO nZ nR nS nJ cO cZ cR cS cJ O Z R S J w hO hZ hR hJ z1 z2 z3 z4 z5 hw

set_option maxRecDepth 100000 in
theorem lifted (os : Os) (started : os.Started) (H : Type) (enc : TypeId × Value → H) :
    ReturnsInHanded {} Try.checked os 3 .any (Rows.fnReadZeroSetsSourceAndTargetsSpec.pre6 enc Try.prog Try.f3 Rows.fnReadZeroSetsSourceAndTargetsRow.domain false) (Rows.fnReadZeroSetsSourceAndTargetsSpec.post enc Try.prog Try.f3 false true false false) := by
  refine returnsInHanded_of_change_sized (C := Try.checked) own started (by kernel_rfl) Try.func3
    (ChangeSpec.witness6 (enc := enc) (C := Try.checked) false ⟨#[], #[.slice none 0 0, .slice none 0 0, .slice none 0 0, .slice none 0 0, .slice none 0 0], []⟩ 8 (by kernel_rfl) (by kernel_rfl) (by kernel_rfl) (by kernel_rfl)) ?_
  intro W base args ds gs before hval0 hW _ hsz0 _
  have hval : ∀ (j : Nat) t v, Try.f3.params[j]? = some t → args[j]? = some v → Value.okWide Try.prog W .any base t v := hval0
  have hsz : (DataW.weightsEach Try.prog (Try.f3.params.toList ++ Rows.fnReadZeroSetsSourceAndTargetsSpec.plain.varTypes Try.prog) (ds ++ gs)).all (· ≤ reachBytes) = true := hsz0
  have hW' := hW
  obtain ⟨p, q, hA0, hV, rfl, hfz, hnd⟩ := hW
  have hA : DataW.TrodAll enc Try.prog W 0 (fun _ => true) true Try.f3.params.toList args.toList ds p := hA0
  rw [Try.params3] at hA hval hsz
  obtain ⟨v0, vs0, d0, ds0, p0, q0, hargs, rfl, rfl, h0, r0⟩ := trodAll_cons hA
  obtain ⟨v1, vs1, d1, ds1, p1, q1, rfl, rfl, rfl, h1, r1⟩ := trodAll_cons r0
  obtain ⟨v2, vs2, d2, ds2, p2, q2, rfl, rfl, rfl, h2, r2⟩ := trodAll_cons r1
  obtain ⟨v3, vs3, d3, ds3, p3, q3, rfl, rfl, rfl, h3, r3⟩ := trodAll_cons r2
  obtain ⟨v4, vs4, d4, ds4, p4, q4, rfl, rfl, rfl, h4, r4⟩ := trodAll_cons r3
  obtain ⟨rfl, rfl, rfl⟩ := trodAll_nil r4
  obtain rfl : args = #[v0, v1, v2, v3, v4] := by cases args; simp_all
  obtain ⟨rfl, rfl⟩ := trodVars_none hV
  have wt : ∀ (j : Nat) (d : DataW H), ([d0, d1, d2, d3, d4] : List (DataW H))[j]? = some d → ([22, 22, 22, 22, 22] : List TypeId)[j]? = some 22 → ∀ m ∈ d.weights Try.prog 22, m ≤ reachBytes := by
    intro j d hd ht m hm
    have hmem := DataW.weights_mem_each (P := Try.prog) (ts := [22, 22, 22, 22, 22] ++ Rows.fnReadZeroSetsSourceAndTargetsSpec.plain.varTypes Try.prog) (ds := [d0, d1, d2, d3, d4] ++ []) (j := j) (t := 22) (d := d)
      (by rw [List.getElem?_append_left (List.getElem?_eq_some_iff.1 ht).1]; exact ht) (by rw [List.append_nil]; exact hd) m hm
    have := List.all_eq_true.1 hsz m hmem
    simpa using this
  obtain ⟨a0, len0, cap0, rfl⟩ := okWide_slice Try.underlying22 (hval 0 22 v0 rfl rfl)
  have k0 := h0
  have lt0 : ∀ x ∈ p0, x.block < W.heap.size := by obtain ⟨m, hm⟩ := k0; exact DataW.trod_lt m _ _ _ hm
  obtain ⟨Z0, w0, z0⟩ : ∃ Z : Nat → Int, IV W a0 len0 Z ∧ len0 ≤ 140737488355328 := by obtain ⟨fuel, hf⟩ := h0; exact view hf (wt 0 d0 rfl rfl)
  obtain ⟨a1, len1, cap1, rfl⟩ := okWide_slice Try.underlying22 (hval 1 22 v1 rfl rfl)
  have k1 := h1
  have lt1 : ∀ x ∈ p1, x.block < W.heap.size := by obtain ⟨m, hm⟩ := k1; exact DataW.trod_lt m _ _ _ hm
  obtain ⟨Z1, w1, z1⟩ : ∃ Z : Nat → Int, IV W a1 len1 Z ∧ len1 ≤ 140737488355328 := by obtain ⟨fuel, hf⟩ := h1; exact view hf (wt 1 d1 rfl rfl)
  obtain ⟨a2, len2, cap2, rfl⟩ := okWide_slice Try.underlying22 (hval 2 22 v2 rfl rfl)
  have k2 := h2
  have lt2 : ∀ x ∈ p2, x.block < W.heap.size := by obtain ⟨m, hm⟩ := k2; exact DataW.trod_lt m _ _ _ hm
  obtain ⟨Z2, w2, z2⟩ : ∃ Z : Nat → Int, IV W a2 len2 Z ∧ len2 ≤ 140737488355328 := by obtain ⟨fuel, hf⟩ := h2; exact view hf (wt 2 d2 rfl rfl)
  obtain ⟨a3, len3, cap3, rfl⟩ := okWide_slice Try.underlying22 (hval 3 22 v3 rfl rfl)
  have k3 := h3
  have lt3 : ∀ x ∈ p3, x.block < W.heap.size := by obtain ⟨m, hm⟩ := k3; exact DataW.trod_lt m _ _ _ hm
  obtain ⟨Z3, w3, z3⟩ : ∃ Z : Nat → Int, IV W a3 len3 Z ∧ len3 ≤ 140737488355328 := by obtain ⟨fuel, hf⟩ := h3; exact view hf (wt 3 d3 rfl rfl)
  obtain ⟨a4, len4, cap4, rfl⟩ := okWide_slice Try.underlying22 (hval 4 22 v4 rfl rfl)
  have k4 := h4
  have lt4 : ∀ x ∈ p4, x.block < W.heap.size := by obtain ⟨m, hm⟩ := k4; exact DataW.trod_lt m _ _ _ hm
  obtain ⟨Z4, w4, z4⟩ : ∃ Z : Nat → Int, IV W a4 len4 Z ∧ len4 ≤ 140737488355328 := by obtain ⟨fuel, hf⟩ := h4; exact view hf (wt 4 d4 rfl rfl)
  clear hA0 hval0 hsz0 hsz wt
  refine (sets_any a0 a1 a2 a3 a4 len0 len1 len2 len3 len4 cap0 cap1 cap2 cap3 cap4 Z0 Z1 Z2 Z3 Z4 W w0 w1 w2 w3 w4 z0 z1 z2 z3 z4).mono fun e W' ⟨he, bel⟩ => ?_
  subst he
  exact ⟨_, rfl, _, _, _, [], _, [], hW', trodAll_mk1 (shut_bool Try.underlying4 _), (trodAll_cons_mk (Below.trod laidOut (by kernel_rfl) (of_decide_eq_true (by kernel_rfl)) k0 bel lt0) (trodAll_cons_mk (Below.trod laidOut (by kernel_rfl) (of_decide_eq_true (by kernel_rfl)) k1 bel lt1) (trodAll_cons_mk (Below.trod laidOut (by kernel_rfl) (of_decide_eq_true (by kernel_rfl)) k2 bel lt2) (trodAll_cons_mk (Below.trod laidOut (by kernel_rfl) (of_decide_eq_true (by kernel_rfl)) k3 bel lt3) (trodAll_cons_mk (Below.trod laidOut (by kernel_rfl) (of_decide_eq_true (by kernel_rfl)) k4 bel lt4) trodAll_mk0))))), rfl, bel.frame _, fun h => by cases h⟩
end Go.Proofs.Qxb6616519a.sets
namespace Go.Proofs.Qxb6616519a

/-- THE STATEMENT. -/
theorem sets_proved : Rows.FnReadZeroSetsSourceAndTargetsSaid :=
  OpenClaim.holds_of_wide 3 Try.f3 rfl rfl rfl rfl rfl rfl rfl ⟨rfl, rfl, rfl, rfl, rfl⟩ rfl rfl rfl rfl rfl (by kernel_rfl) Try.func3 (by kernel_rfl)
    (of_decide_eq_true (by kernel_rfl)) (by unfold Func.isWrapper; first | (rw [if_pos (by decide +kernel)]; kernel_rfl) | (rw [if_neg (by decide +kernel)]; exact ⟨rfl, rfl⟩))
    (fun os started H enc _ => sets.lifted os started H enc)
end Go.Proofs.Qxb6616519a
