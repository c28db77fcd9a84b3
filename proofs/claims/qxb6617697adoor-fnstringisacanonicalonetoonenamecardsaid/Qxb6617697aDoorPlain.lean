/-
  PLAIN: the names of the states, as bytes; the decimal numeral read back; no Go in sight.
-/
import Derived.Lib.ItoaNum
namespace Go.Proofs.Qxb6617697aDoor
open Go Go.Lib

/-- The name of state n, as bytes. -/
def nameOf (n : Int) : List UInt8 :=
  if n = 0 then [99, 108, 111, 115, 101, 100] else if n = 1 then [111, 112, 101, 110] else if n = 2 then [114, 101, 99, 111, 118, 101, 114, 105, 110, 103]
  else [83, 116, 97, 116, 101, 40] ++ itoa n ++ [41]

def decVal (l : List UInt8) : Nat := l.foldl (fun a c => a * 10 + (c.toNat - 48)) 0

theorem decVal_digits (u : Nat) : decVal (decDigits u) = u := by
  induction u using Nat.strongRecOn with
  | _ u ih =>
    by_cases h : u < 10
    · rw [decDigits, dif_pos h]
      simp [decVal]
      omega
    · rw [decDigits, dif_neg h]
      have := ih (u / 10) (by omega)
      unfold decVal at this ⊢
      rw [List.foldl_append, this]
      simp
      omega

theorem decDigits_inj {u v : Nat} (h : decDigits u = decDigits v) : u = v := by
  rw [← decVal_digits u, ← decVal_digits v, h]

theorem dg_toNat (u j : Nat) : (dg u j).toNat = 48 + u / 10 ^ j % 10 := by
  unfold dg
  have : u / 10 ^ j % 10 < 10 := Nat.mod_lt _ (by decide)
  simp
  omega

theorem decDigits_get (u k : Nat) (h : k < (decDigits u).length) : (decDigits u)[k] = dg u (nDigits u - 1 - k) := by
  simp [decDigits_eq]

theorem digit_lo (u k : Nat) (h : k < (decDigits u).length) : 48 ≤ ((decDigits u)[k]).toNat ∧ ((decDigits u)[k]).toNat ≤ 57 := by
  rw [decDigits_get u k h, dg_toNat]
  have : u / 10 ^ (nDigits u - 1 - k) % 10 < 10 := Nat.mod_lt _ (by decide)
  omega

theorem pow_pred_le (u : Nat) (h : 1 ≤ u) : 10 ^ (nDigits u - 1) ≤ u := by
  induction u using Nat.strongRecOn with
  | _ u ih =>
    by_cases h9 : u < 10
    · rw [nDigits_small h9]; simpa using h
    · rw [nDigits_big h9]
      have := ih (u / 10) (by omega) (by omega)
      have hp := nDigits_pos (u / 10)
      have e : nDigits (u / 10) + 1 - 1 = (nDigits (u / 10) - 1) + 1 := by omega
      rw [e, Nat.pow_succ]
      omega

/-- The first digit of a positive number is not '0'. -/
theorem first_digit (u : Nat) (h : 1 ≤ u) (hl : 0 < (decDigits u).length) : 49 ≤ ((decDigits u)[0]).toNat := by
  rw [decDigits_get u 0 hl, dg_toNat]
  have h1 := lt_pow_nDigits u
  have h2 := pow_pred_le u h
  have hp := nDigits_pos u
  have e : nDigits u = (nDigits u - 1) + 1 := by omega
  rw [e, Nat.pow_succ] at h1
  have h3 : u / 10 ^ (nDigits u - 1) < 10 := Nat.div_lt_of_lt_mul h1
  have h4 : 1 ≤ u / 10 ^ (nDigits u - 1) := (Nat.one_le_div_iff (Nat.pow_pos (by decide))).2 h2
  simp only [Nat.sub_zero]
  omega

/-- The running numbers. -/
def part (u k : Nat) : Nat := u / 10 ^ (nDigits u - k)

theorem part_zero (u : Nat) : part u 0 = 0 := by
  unfold part
  exact Nat.div_eq_of_lt (by simpa using lt_pow_nDigits u)

theorem part_all (u : Nat) : part u (nDigits u) = u := by
  unfold part
  simp

theorem part_step (u k : Nat) (h : k < nDigits u) : part u (k + 1) = part u k * 10 + u / 10 ^ (nDigits u - 1 - k) % 10 := by
  unfold part
  have e : nDigits u - k = (nDigits u - 1 - k) + 1 := by omega
  have e2 : nDigits u - (k + 1) = nDigits u - 1 - k := by omega
  rw [e, e2, Nat.pow_succ, ← Nat.div_div_eq_div_mul]
  omega

theorem part_le (u k : Nat) : part u k ≤ u := Nat.div_le_self _ _

theorem decDigits_ne_nil (u : Nat) : decDigits u ≠ [] := by
  intro h
  have := decDigits_length u
  have hp := nDigits_pos u
  rw [h] at this
  simp at this
  omega

theorem nDigits_le (u : Nat) (h : u < 10 ^ 20) : nDigits u ≤ 20 := by
  by_cases h1 : 1 ≤ u
  · have := pow_pred_le u h1
    have h2 : 10 ^ (nDigits u - 1) < 10 ^ 20 := by omega
    have := (Nat.pow_lt_pow_iff_right (by decide : 1 < 10)).1 h2
    omega
  · have : u = 0 := by omega
    subst this
    rw [nDigits_small (by decide)]
    decide

theorem itoa_inj {a b : Int} (h : itoa a = itoa b) : a = b := by
  unfold itoa at h
  have key : ∀ (u v : Nat), 45 :: decDigits u ≠ decDigits v := by
    intro u v e
    have hl : 0 < (decDigits v).length := by rw [← e]; simp
    have h1 := (digit_lo v 0 hl).1
    have h2 : (decDigits v)[0] = 45 := by simp [← e]
    rw [h2] at h1
    exact absurd h1 (by decide)
  split at h <;> split at h
  · have := decDigits_inj (List.cons.inj h).2
    omega
  · exact absurd h (key _ _)
  · exact absurd h.symm (key _ _)
  · have := decDigits_inj h
    omega

theorem itoa_head (n : Int) : ∃ c l, itoa n = c :: l := by
  cases h : itoa n with
  | nil =>
    unfold itoa at h
    split at h
    · cases h
    · exact absurd h (decDigits_ne_nil _)
  | cons c l => exact ⟨c, l, rfl⟩

theorem nameOf_inj {a b : Int} (h : nameOf a = nameOf b) : a = b := by
  unfold nameOf at h
  repeat' split at h
  all_goals first
    | omega
    | exact absurd h (by decide)
    | (simp at h; done)
    | (simp at h; exact itoa_inj h)

theorem nameOf_beq (a b : Int) : (nameOf a == nameOf b) = (a == b) := by
  by_cases h : a = b
  · subst h; simp
  · have : ¬ nameOf a = nameOf b := fun e => h (nameOf_inj e)
    rw [beq_eq_false_iff_ne.2 h, beq_eq_false_iff_ne.2 this]
end Go.Proofs.Qxb6617697aDoor
