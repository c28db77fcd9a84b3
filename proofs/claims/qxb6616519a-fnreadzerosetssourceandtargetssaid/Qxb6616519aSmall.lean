/-
  The law's own helpers: the byte counters (19, 7), readZeroDomain (8), copyInts (9), sameInts (13).
-/
import Derived.Test.Qxb6616519aMem
import Derived.Deep.QuietTactic
import Derived.BigQuiet
namespace Go.Proofs.Qxb6616519a
open Go.RowKit
set_option linter.unusedVariables false

set_option maxHeartbeats 1000000 in
theorem bytes19 (a1 a2 a3 a4 a5 : Option Addr) (n1 n2 n3 n4 n5 c1 c2 c3 c4 c5 : Nat) (w : World) (z1 : n1 ≤ 140737488355328) (z2 : n2 ≤ 140737488355328) (z3 : n3 ≤ 140737488355328) (z4 : n4 ≤ 140737488355328) (z5 : n5 ≤ 140737488355328) :
    Calls Try.prog 19 #[.slice a1 n1 c1, .slice a2 n2 c2, .slice a3 n3 c3, .slice a4 n4 c4, .slice a5 n5 c5] w fun e w' => IsBool e ∧ w' = w := by
  go_enter Try.func19, Try.ntmps19
  go_wp2
  all_goals
    go_ret
    exact ⟨isBool_mk _, rfl⟩

set_option maxHeartbeats 1000000 in
theorem bytes7 (a1 a2 a3 a4 a5 : Option Addr) (n1 n2 n3 n4 n5 c1 c2 c3 c4 c5 : Nat) (w : World) (z1 : n1 ≤ 140737488355328) (z2 : n2 ≤ 140737488355328) (z3 : n3 ≤ 140737488355328) (z4 : n4 ≤ 140737488355328) (z5 : n5 ≤ 140737488355328) :
    Calls Try.prog 7 #[.slice a1 n1 c1, .slice a2 n2 c2, .slice a3 n3 c3, .slice a4 n4 c4, .slice a5 n5 c5] w fun e w' => IsBool e ∧ w' = w := by
  go_enter Try.func7, Try.ntmps7
  go_wp2
  all_goals
    go_ret
    exact ⟨isBool_mk _, rfl⟩

/-- Round i of the script lies in the domain. -/
def Dom1 (nO nZ nR : Nat) (O Z R : Nat → Int) (j : Int) : Prop :=
  0 ≤ j ∧ j < nR ∧ 0 ≤ R j.toNat ∧ R j.toNat < nO ∧ 0 ≤ O (R j.toNat).toNat ∧ O (R j.toNat).toNat < nZ ∧ 0 ≤ Z (O (R j.toNat).toNat).toNat ∧ Z (O (R j.toNat).toNat).toNat < nO

set_option maxHeartbeats 1000000 in
theorem domain_any (aO aZ aR aJ : Option Addr) (nO nZ nR nJ cO cZ cR cJ : Nat) (O Z R J : Nat → Int) (w : World) (hO : IV w aO nO O) (hZ : IV w aZ nZ Z) (hR : IV w aR nR R) (hJ : IV w aJ nJ J)
    (z1 : nO ≤ 16384) (z2 : nZ ≤ 16384) (z3 : nR ≤ 16384) (z4 : nJ ≤ 16384) :
    Calls Try.prog 8 #[.slice aO nO cO, .slice aZ nZ cZ, .slice aR nR cR, .slice aJ nJ cJ] w fun e w' => (e = .returned (.bool false) ∨ (e = .returned (.bool true) ∧ ∀ i, i < nJ → Dom1 nO nZ nR O Z R (J i))) ∧ w' = w := by
  have HO : Hid (IV w aO nO O) := hO
  have HZ : Hid (IV w aZ nZ Z) := hZ
  have HR : Hid (IV w aR nR R) := hR
  have HJ : Hid (IV w aJ nJ J) := hJ
  clear hO hZ hR hJ
  go_enter Try.func8, Try.ntmps8
  go_wp2
  go_loop [9] (fun i => ∃ k : Nat, k ≤ nJ ∧ i = .int .i64 k ∧ Hid (∀ i, i < k → Dom1 nO nZ nR O Z R (J i))) (fun i => nJ - (intOf i).toNat)
  case atStart => exact ⟨0, Nat.zero_le _, rfl, (show Hid _ from fun i hi => absurd hi (Nat.not_lt_zero i))⟩
  case round =>
    obtain ⟨k, hk, rfl, hD⟩ := hrel
    by_cases hlt : k < nJ
    · obtain ⟨bJ, oJ, rfl, _, cJ0⟩ := HJ.out k hlt
      obtain ⟨j, hj⟩ : ∃ j, j = J k := ⟨_, rfl⟩
      rw [← hj] at cJ0
      have EJ : Hid (j = J k) := hj
      clear hj
      by_cases t1 : ¬ (0 ≤ j ∧ j < nR)
      · go_wp2
        all_goals first
          | (go_ret; exact ⟨.inl rfl, rfl⟩)
          | (exfalso; omega)
      rw [Classical.not_not] at t1
      obtain ⟨t1a, t1b⟩ := t1
      obtain ⟨bR, oR, rfl, _, cR0⟩ := HR.out j.toNat (by omega)
      obtain ⟨r, hr⟩ : ∃ r, r = R j.toNat := ⟨_, rfl⟩
      rw [← hr] at cR0
      have ER : Hid (r = R j.toNat) := hr
      clear hr
      by_cases t2 : ¬ (0 ≤ r ∧ r < nO)
      · go_wp2
        all_goals first
          | (go_ret; exact ⟨.inl rfl, rfl⟩)
          | (exfalso; omega)
      rw [Classical.not_not] at t2
      obtain ⟨t2a, t2b⟩ := t2
      obtain ⟨bO, oO, rfl, _, cO0⟩ := HO.out r.toNat (by omega)
      obtain ⟨ob, hob⟩ : ∃ ob, ob = O r.toNat := ⟨_, rfl⟩
      rw [← hob] at cO0
      have EO : Hid (ob = O r.toNat) := hob
      clear hob
      by_cases t3 : ¬ (0 ≤ ob ∧ ob < nZ)
      · go_wp2
        all_goals first
          | (go_ret; exact ⟨.inl rfl, rfl⟩)
          | (exfalso; omega)
      rw [Classical.not_not] at t3
      obtain ⟨t3a, t3b⟩ := t3
      obtain ⟨bZ, oZ, rfl, _, cZ0⟩ := HZ.out ob.toNat (by omega)
      obtain ⟨x, hx⟩ : ∃ x, x = Z ob.toNat := ⟨_, rfl⟩
      rw [← hx] at cZ0
      have EZ : Hid (x = Z ob.toNat) := hx
      clear hx
      by_cases t4 : ¬ (0 ≤ x ∧ x < nO)
      · go_wp2
        all_goals first
          | (go_ret; exact ⟨.inl rfl, rfl⟩)
          | (exfalso; omega)
      rw [Classical.not_not] at t4
      obtain ⟨t4a, t4b⟩ := t4
      go_wp2
      go_round
      case rel =>
        refine ⟨k + 1, by omega, by go_num, (show Hid _ from fun i hi => ?_)⟩
        by_cases e : i = k
        · subst e
          have e1 := EJ.out
          have e2 := ER.out
          have e3 := EO.out
          have e4 := EZ.out
          subst e1
          subst e2
          subst e3
          subst e4
          exact ⟨t1a, t1b, t2a, t2b, t3a, t3b, t4a, t4b⟩
        · exact hD.out i (by omega)
      case measure => simp [intOf]; omega
    · obtain rfl : k = nJ := by omega
      go_wp2
      go_ret
      exact ⟨.inr ⟨rfl, hD.out⟩, rfl⟩
end Go.Proofs.Qxb6616519a
