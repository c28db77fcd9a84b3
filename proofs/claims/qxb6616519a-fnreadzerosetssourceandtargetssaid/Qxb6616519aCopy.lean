/-
  copyInts (9), sameInts (13).
-/
import Derived.Test.Qxb6616519aMem
import Derived.Deep.QuietTactic
import Derived.BigQuiet
import Derived.Lib.SliceRun
namespace Go.Proofs.Qxb6616519a
open Go.RowKit
set_option linter.unusedVariables false

theorem IV.none_zero {w : World} {n : Nat} {Z : Nat → Int} (h : IV w none n Z) : n = 0 := by
  rcases Nat.eq_zero_or_pos n with h0 | h0
  · exact h0
  · obtain ⟨_, _, e, _⟩ := h 0 h0
    cases e

theorem eql_nil (w : World) (a : Option Addr) (l c : Nat) : (binOp .eql 22 (.slice a l c) (.slice none 0 0)).run Try.prog w = .ok (.bool a.isNone) w :=
  Lib.run_eql_slice_nil w 22 3 a l c 0 0 Try.underlying22

set_option maxHeartbeats 400000 in
theorem copy_some (ad : Addr) (n cap : Nat) (Z : Nat → Int) (w : World) (hn : n ≤ 100000) (hZ : IV w (some ad) n Z) :
    Calls Try.prog 9 #[.slice (some ad) n cap] w fun e w' => ∃ a' c', e = .returned (.slice a' n c') ∧ RowI w' a' n Z w.heap.size w'.heap.size ∧ Below w.heap.size w w' := by
  have HZ : Hid (IV w (some ad) n Z) := hZ
  clear hZ
  have hnil := fun w => eql_nil w (some ad) n cap
  simp only [Option.isNone_some] at hnil
  obtain ⟨i0, hi, hz0, hz1, hz2⟩ := info_parts info3
  go_enter Try.func9, Try.ntmps9
  go_wp2_with (at_make; refine wpList_make_full _ rfl _ _ 22 rfl w.heap.size 3 i0 _ 1 Try.underlying22 hi hz0 hz1 .i64 .i64 _ _ n rfl rfl rfl rfl ?c1 ?c2 ?c3 ?_)
  case c1 => rw [hz2]; omega
  case c2 => unfold maxLen; omega
  case c3 => omega
  intro w1 hown hgr
  obtain ⟨C0, hO0, _⟩ := OwnBlk.ofOwns hown rfl
  rw [Nat.mul_one] at hO0
  have HO0 : Hid (OwnBlk w1 w.heap.size 3 n C0) := hO0
  have HB0 : Hid (Below w.heap.size w w1) := (Below.refl _ _).grown hgr (Nat.le_refl _) (fun _ h => by cases h)
  clear hi hz0 hz1 hz2 hO0 hown hgr
  go_wp2
  go_loopw [4] (fun i wr => ∃ (k : Nat) (C : Nat → Value), k ≤ n ∧ i = .int .i64 k ∧ OwnBlk wr w.heap.size 3 n C ∧ (∀ i, i < k → C i = .int .i64 (Z i)) ∧ Below w.heap.size w wr) (fun i _ => n - (intOf i).toNat)
  case atStart => exact ⟨0, C0, Nat.zero_le _, rfl, HO0.out, fun _ h => by omega, HB0.out⟩
  case round =>
    obtain ⟨k, C, hk, rfl, hO, hC, hB⟩ := hrel
    by_cases hlt : k < n
    · obtain ⟨b, off, e, hb, c0⟩ := HZ.out k hlt
      cases e
      have f0 := hO.free k
      have e0 := hO.cell k hlt
      have d0 := (hB.cell (p := ⟨b, off + k, none⟩) hb).trans c0
      have HO : Hid (OwnBlk wr w.heap.size 3 n C) := hO
      have HC : Hid (∀ i, i < k → C i = .int .i64 (Z i)) := hC
      have HB : Hid (Below w.heap.size w wr) := hB
      clear hO hC hB c0
      generalize C k = y at e0
      obtain ⟨x, hx⟩ : ∃ x, x = Z k := ⟨_, rfl⟩
      rw [← hx] at d0
      have HX : Hid (x = Z k) := hx
      clear hx
      go_wp2
      go_roundw
      case rel =>
        refine ⟨k + 1, upd C k (.int .i64 x), by omega, by go_num, HO.out.set k _, fun i hi => ?_, HB.out.setCell (Nat.le_refl _) _⟩
        by_cases e : i = k
        · subst e; rw [upd_at, HX.out]
        · rw [upd_ne _ _ _ e]; exact HC.out i (by omega)
      case measure => simp [intOf]; omega
    · obtain rfl : k = n := by omega
      have HO : Hid (OwnBlk wr w.heap.size 3 k C) := hO
      have HC : Hid (∀ i, i < k → C i = .int .i64 (Z i)) := hC
      have HB : Hid (Below w.heap.size w wr) := hB
      clear hO hC hB
      go_wp2
      go_ret
      exact ⟨_, _, rfl, .inr ⟨_, rfl, Nat.le_refl _, HO.out.lt, HO.out.congr HC.out⟩, HB.out⟩

theorem copy_any (a : Option Addr) (n cap : Nat) (Z : Nat → Int) (w : World) (hn : n ≤ 100000) (hZ : IV w a n Z) :
    Calls Try.prog 9 #[.slice a n cap] w fun e w' => ∃ a' c', e = .returned (.slice a' n c') ∧ RowI w' a' n Z w.heap.size w'.heap.size ∧ Below w.heap.size w w' := by
  cases a with
  | some ad => exact copy_some ad n cap Z w hn hZ
  | none =>
    obtain rfl := hZ.none_zero
    have hnil := fun w => eql_nil w none 0 cap
    simp only [Option.isNone_none] at hnil
    clear hZ
    go_enter Try.func9, Try.ntmps9
    go_wp2
    go_ret
    exact ⟨none, 0, rfl, .inl rfl, Below.refl _ _⟩

set_option maxHeartbeats 400000 in
theorem same_any (a b : Option Addr) (n c d : Nat) (Y Z : Nat → Int) (w : World) (hn : n ≤ 100000) (hY : IV w a n Y) (hZ : IV w b n Z) (he : ∀ i, i < n → Y i = Z i) :
    Calls Try.prog 13 #[.slice a n c, .slice b n d] w fun e w' => e = .returned (.bool true) ∧ ∃ q, w' = w.drewN q := by
  have HY : Hid (IV w a n Y) := hY
  have HZ : Hid (IV w b n Z) := hZ
  have HE : Hid (∀ i, i < n → Y i = Z i) := he
  clear hY hZ he
  go_enter Try.func13, Try.ntmps13
  go_wp2
  go_loopw [5] (fun i wr => ∃ (k q : Nat), k ≤ n ∧ i = .int .i64 k ∧ wr = w.drewN q) (fun i _ => n - (intOf i).toNat)
  case atStart => exact ⟨0, 0, Nat.zero_le _, rfl, rfl⟩
  case round =>
    obtain ⟨k, q, hk, rfl, rfl⟩ := hrel
    by_cases hlt : k < n
    · obtain ⟨b1, o1, rfl, _, c1⟩ := HY.out k hlt
      obtain ⟨b2, o2, rfl, _, c2⟩ := HZ.out k hlt
      rw [HE.out k hlt] at c1
      generalize Z k = x at c1 c2
      have hki : (k : Int) < (n : Int) := by omega
      go_wp2
      go_quiet (fail)
      go_wp2
      go_roundw
      case rel => exact ⟨k + 1, _, by omega, by go_num, rfl⟩
      case measure => simp [intOf]; omega
    · go_wp2
      go_ret
      exact ⟨rfl, q, rfl⟩
end Go.Proofs.Qxb6616519a
