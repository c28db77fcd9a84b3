/-
  The walk of zzIsNameOf (function 5), over plain hypotheses on the text's bytes: two roads: the numeral with and without a sign. No statement on numerals here: those stand in the plain text.
-/
import Derived.Test.Qxb6617697aDoorRows
import Derived.WalkKit
import Derived.WalkSpells
import Derived.WalkLawsBesides
namespace Go.Proofs.Qxb6617697aDoor
open Go.RowKit

/-- What the digits' loop wants: the k-th running number M k, the next digit. -/
def Digs (d : ByteArray) (M : Nat → Int) : Prop :=
  ∀ k (h : k < d.size), 48 ≤ ((d[k]'h).toNat : Int) ∧ ((d[k]'h).toNat : Int) ≤ 57 ∧ 0 ≤ M k ∧ M k * 10 + (((d[k]'h).toNat : Int) - 48) ≤ 9223372036854775808 ∧ M (k + 1) = M k * 10 + (((d[k]'h).toNat : Int) - 48)

set_option maxHeartbeats 400000 in
theorem name_neg (t b d : ByteArray) (s : Int) (M : Nat → Int) (w : World) (hs : t.size ≤ 100) (hs8 : 8 ≤ t.size) (h1 : (t.toList == [99, 108, 111, 115, 101, 100]) = false)
   (h2 : (t.toList == [111, 112, 101, 110]) = false) (h3 : (t.toList == [114, 101, 99, 111, 118, 101, 114, 105, 110, 103]) = false)
   (h4 : (t.extract 0 6).toList = [83, 116, 97, 116, 101, 40]) (hl : (t[t.size - 1]'(by omega)).toNat = 41)
   (h5 : t.extract 6 (t.size - 1) = b) (hb : 0 < b.size) (h6 : (b[0]'hb).toNat = 45) (h7 : b.extract 1 b.size = d) (hd : 0 < d.size) (hd20 : d.size ≤ 20) (hd0 : ((d[0]'hd).toNat : Int) ≠ 48)
   (h8 : (d.toList == [48]) = false) (hs0 : s < 0) (hs1 : -9223372036854775808 ≤ s)
   (hM0 : M 0 = 0) (hM : Digs d M) (hMs : M d.size = - s) :
    Calls Tryd.prog 5 #[.string t, .int .i64 s] w fun e w' => e = .returned (.bool true) ∧ w' = w := by
  have HM0 : Hid (M 0 = 0) := hM0
  have HM : Hid (Digs d M) := hM
  have HMs : Hid (M d.size = - s) := hMs
  clear hM0 hM hMs
  go_enter Tryd.func5, Tryd.ntmps5
  go_wp2
  go_loop [8, 9] (fun m i => ∃ (k : Nat) (a : Int), k ≤ d.size ∧ i = .int .i64 k ∧ m = .int .u64 a ∧ Hid (a = M k)) (fun _ i => d.size - (intOf i).toNat)
  case atStart => exact ⟨0, 0, Nat.zero_le _, rfl, rfl, (show Hid _ from HM0.out.symm)⟩
  case round =>
    obtain ⟨k, a, hk, rfl, rfl, ha⟩ := hrel
    by_cases hlt : k < d.size
    · obtain ⟨c1, c2, c3, c4, c5⟩ := HM.out k hlt
      rw [← ha.out] at c3 c4 c5
      have C5 : Hid (M (k + 1) = a * 10 + (((d[k]'hlt).toNat : Int) - 48)) := c5
      clear c5
      go_wp2
      go_round
      case rel => exact ⟨k + 1, _, by omega, by go_num, rfl, (show Hid _ from C5.out.symm)⟩
      case measure => simp [intOf]; omega
    · obtain rfl : k = d.size := by omega
      have hma : (-(s + 1) + 1 != a) = false := by
        have e1 := ha.out
        have e2 := HMs.out
        have : -(s + 1) + 1 = a := by omega
        simp [this]
      go_wp2
      go_ret
      exact ⟨rfl, rfl⟩

set_option maxHeartbeats 400000 in
theorem name_pos (t d : ByteArray) (s : Int) (M : Nat → Int) (w : World) (hs : t.size ≤ 100) (hs8 : 8 ≤ t.size) (h1 : (t.toList == [99, 108, 111, 115, 101, 100]) = false)
   (h2 : (t.toList == [111, 112, 101, 110]) = false) (h3 : (t.toList == [114, 101, 99, 111, 118, 101, 114, 105, 110, 103]) = false)
   (h4 : (t.extract 0 6).toList = [83, 116, 97, 116, 101, 40]) (hl : (t[t.size - 1]'(by omega)).toNat = 41)
   (h5 : t.extract 6 (t.size - 1) = d) (hd : 0 < d.size) (hd20 : d.size ≤ 20) (hd0 : ((d[0]'hd).toNat : Int) ≠ 48) (h6 : ((d[0]'hd).toNat : Int) ≠ 45)
   (hs0 : 2 < s) (hs1 : s ≤ 9223372036854775807)
   (hM0 : M 0 = 0) (hM : Digs d M) (hMs : M d.size = s) :
    Calls Tryd.prog 5 #[.string t, .int .i64 s] w fun e w' => e = .returned (.bool true) ∧ w' = w := by
  have HM0 : Hid (M 0 = 0) := hM0
  have HM : Hid (Digs d M) := hM
  have HMs : Hid (M d.size = s) := hMs
  clear hM0 hM hMs
  go_enter Tryd.func5, Tryd.ntmps5
  go_wp2
  go_loop [8, 9] (fun m i => ∃ (k : Nat) (a : Int), k ≤ d.size ∧ i = .int .i64 k ∧ m = .int .u64 a ∧ Hid (a = M k)) (fun _ i => d.size - (intOf i).toNat)
  case atStart => exact ⟨0, 0, Nat.zero_le _, rfl, rfl, (show Hid _ from HM0.out.symm)⟩
  case round =>
    obtain ⟨k, a, hk, rfl, rfl, ha⟩ := hrel
    by_cases hlt : k < d.size
    · obtain ⟨c1, c2, c3, c4, c5⟩ := HM.out k hlt
      rw [← ha.out] at c3 c4 c5
      have C5 : Hid (M (k + 1) = a * 10 + (((d[k]'hlt).toNat : Int) - 48)) := c5
      clear c5
      go_wp2
      go_round
      case rel => exact ⟨k + 1, _, by omega, by go_num, rfl, (show Hid _ from C5.out.symm)⟩
      case measure => simp [intOf]; omega
    · obtain rfl : k = d.size := by omega
      have hma : (s != a) = false := by
        have e1 := ha.out
        have e2 := HMs.out
        have : s = a := by omega
        simp [this]
      have hge : ¬ a ≤ 2 := by
        have e1 := ha.out
        have e2 := HMs.out
        omega
      go_wp2
      go_ret
      exact ⟨rfl, rfl⟩
end Go.Proofs.Qxb6617697aDoor
