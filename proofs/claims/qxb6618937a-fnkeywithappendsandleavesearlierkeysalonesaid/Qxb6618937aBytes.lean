/-
  The steps' rows in memory; the two byte counters (functions 4 and 5): they only read, and return.
-/
import Derived.Test.Qxb6618937aRows
import Derived.WalkKit
import Derived.WalkSpells
import Derived.WalkLawsBesides
namespace Go.Proofs.Qxb6618937a
open Go.RowKit

/-- A row of steps: how many, and of each its three fields. -/
structure Steps where
  n : Nat
  B : Nat → Bool
  S : Nat → ByteArray
  N : Nat → Int

/-- The cells of a row of steps: three a step. -/
def Cells3 (w : World) (a : Option Addr) (K : Steps) : Prop :=
  ∀ i, i < K.n → ∃ b off, a = some ⟨b, off, none⟩ ∧ b < w.heap.size ∧ w.cell? ⟨b, off + i * 3, none⟩ = some (.bool (K.B i)) ∧ w.cell? ⟨b, off + i * 3 + 1, none⟩ = some (.string (K.S i)) ∧ w.cell? ⟨b, off + i * 3 + 2, none⟩ = some (.int .i64 (K.N i)) ∧ (K.S i).size ≤ 140737488355328

def IsBool (e : Ending) : Prop := ∃ β : Bool, e = .returned (.bool β)
def IsNat (e : Ending) : Prop := ∃ m : Int, 0 ≤ m ∧ e = .returned (.int .i64 m)
theorem isBool_mk (β : Bool) : IsBool (.returned (.bool β)) := ⟨β, rfl⟩
theorem isNat_mk (m : Int) (h : 0 ≤ m) : IsNat (.returned (.int .i64 m)) := ⟨m, h, rfl⟩

set_option maxHeartbeats 400000 in
theorem bytes5 (t : Int) (a : Option Addr) (cap : Nat) (K : Steps) (w : World) (ht0 : 0 ≤ t) (ht : t ≤ 1048576) (hn : K.n ≤ 140737488355328) (hK : Cells3 w a K) :
    Calls Try.prog 5 #[.int .i64 t, .slice a K.n cap] w fun e w' => IsNat e ∧ w' = w := by
  have HK : Hid (Cells3 w a K) := hK
  clear hK
  go_enter Try.func5, Try.ntmps5
  go_wp2
  go_loop [0, 5] (fun tt i => ∃ (k : Nat) (x : Int), k ≤ K.n ∧ i = .int .i64 k ∧ tt = .int .i64 x ∧ 0 ≤ x ∧ x ≤ 1048576) (fun _ i => K.n - (intOf i).toNat)
  case atStart => exact ⟨0, _, Nat.zero_le _, rfl, rfl, ht0, ht⟩
  case round =>
    obtain ⟨k, x, hk, rfl, rfl, ha0, ha⟩ := hrel
    by_cases hlt : k < K.n
    · obtain ⟨b, off, rfl, hb, c0, c1, c2, hz⟩ := HK.out k hlt
      go_wp2
      · go_ret
        exact ⟨isNat_mk _ (by omega), rfl⟩
      · go_round
        case rel => exact ⟨k + 1, _, by omega, by go_num, rfl, by omega, by omega⟩
        case measure => simp [intOf]; omega
    · go_wp2
      go_ret
      exact ⟨isNat_mk _ ha0, rfl⟩

set_option maxHeartbeats 1000000 in
theorem bytes4 (a1 a2 a3 a4 : Option Addr) (c1 c2 c3 c4 : Nat) (K1 K2 K3 K4 : Steps) (w : World) (h1 : Cells3 w a1 K1) (h2 : Cells3 w a2 K2) (h3 : Cells3 w a3 K3) (h4 : Cells3 w a4 K4)
    (z1 : K1.n ≤ 140737488355328) (z2 : K2.n ≤ 140737488355328) (z3 : K3.n ≤ 140737488355328) (z4 : K4.n ≤ 140737488355328) :
    Calls Try.prog 4 #[.slice a1 K1.n c1, .slice a2 K2.n c2, .slice a3 K3.n c3, .slice a4 K4.n c4] w fun e w' => IsBool e ∧ w' = w := by
  have H1 : Hid (Cells3 w a1 K1) := h1
  have H2 : Hid (Cells3 w a2 K2) := h2
  have H3 : Hid (Cells3 w a3 K3) := h3
  have H4 : Hid (Cells3 w a4 K4) := h4
  clear h1 h2 h3 h4
  go_enter Try.func4, Try.ntmps4
  go_wp2
  · go_ret
    exact ⟨isBool_mk _, rfl⟩
  go_loop [9, 10] (fun tt i => ∃ (k : Nat) (x : Int), k ≤ K1.n ∧ i = .int .i64 k ∧ tt = .int .i64 x ∧ 0 ≤ x ∧ x ≤ 1048576) (fun _ i => K1.n - (intOf i).toNat)
  case atStart => exact ⟨0, _, Nat.zero_le _, rfl, rfl, by omega, by omega⟩
  case round =>
    obtain ⟨k, x, hk, rfl, rfl, ha0, ha⟩ := hrel
    by_cases hlt : k < K1.n
    · obtain ⟨b, off, rfl, hb, d0, d1, d2, hz⟩ := H1.out k hlt
      go_wp2
      · go_ret
        exact ⟨isBool_mk _, rfl⟩
      · go_ret
        exact ⟨isBool_mk _, rfl⟩
      · go_round
        case rel => exact ⟨k + 1, _, by omega, by go_num, rfl, by omega, by omega⟩
        case measure => simp [intOf]; omega
    · go_wp2
      · go_ret
        exact ⟨isBool_mk _, rfl⟩
      · go_ret
        exact ⟨isBool_mk _, rfl⟩
      go_loop [9, 11] (fun tt i => ∃ (k : Nat) (x : Int), k ≤ K2.n ∧ i = .int .i64 k ∧ tt = .int .i64 x ∧ 0 ≤ x ∧ x ≤ 1048576) (fun _ i => K2.n - (intOf i).toNat)
      case atStart => exact ⟨0, _, Nat.zero_le _, rfl, rfl, by omega, by omega⟩
      case round =>
        obtain ⟨k, x, hk, rfl, rfl, ha0, ha⟩ := hrel
        by_cases hlt : k < K2.n
        · obtain ⟨b, off, rfl, hb, d0, d1, d2, hz⟩ := H2.out k hlt
          go_wp2
          · go_ret
            exact ⟨isBool_mk _, rfl⟩
          · go_ret
            exact ⟨isBool_mk _, rfl⟩
          · go_round
            case rel => exact ⟨k + 1, _, by omega, by go_num, rfl, by omega, by omega⟩
            case measure => simp [intOf]; omega
        · go_wp2
          · go_ret
            exact ⟨isBool_mk _, rfl⟩
          · go_ret
            exact ⟨isBool_mk _, rfl⟩
          go_loop [9, 12] (fun tt i => ∃ (k : Nat) (x : Int), k ≤ K3.n ∧ i = .int .i64 k ∧ tt = .int .i64 x ∧ 0 ≤ x ∧ x ≤ 1048576) (fun _ i => K3.n - (intOf i).toNat)
          case atStart => exact ⟨0, _, Nat.zero_le _, rfl, rfl, by omega, by omega⟩
          case round =>
            obtain ⟨k, x, hk, rfl, rfl, ha0, ha⟩ := hrel
            by_cases hlt : k < K3.n
            · obtain ⟨b, off, rfl, hb, d0, d1, d2, hz⟩ := H3.out k hlt
              go_wp2
              · go_ret
                exact ⟨isBool_mk _, rfl⟩
              · go_ret
                exact ⟨isBool_mk _, rfl⟩
              · go_round
                case rel => exact ⟨k + 1, _, by omega, by go_num, rfl, by omega, by omega⟩
                case measure => simp [intOf]; omega
            · go_wp2
              · go_ret
                exact ⟨isBool_mk _, rfl⟩
              · go_ret
                exact ⟨isBool_mk _, rfl⟩
              go_loop [9, 13] (fun tt i => ∃ (k : Nat) (x : Int), k ≤ K4.n ∧ i = .int .i64 k ∧ tt = .int .i64 x ∧ 0 ≤ x ∧ x ≤ 1048576) (fun _ i => K4.n - (intOf i).toNat)
              case atStart => exact ⟨0, _, Nat.zero_le _, rfl, rfl, by omega, by omega⟩
              case round =>
                obtain ⟨k, x, hk, rfl, rfl, ha0, ha⟩ := hrel
                by_cases hlt : k < K4.n
                · obtain ⟨b, off, rfl, hb, d0, d1, d2, hz⟩ := H4.out k hlt
                  go_wp2
                  · go_ret
                    exact ⟨isBool_mk _, rfl⟩
                  · go_ret
                    exact ⟨isBool_mk _, rfl⟩
                  · go_round
                    case rel => exact ⟨k + 1, _, by omega, by go_num, rfl, by omega, by omega⟩
                    case measure => simp [intOf]; omega
                · go_wp2
                  go_ret
                  exact ⟨isBool_mk _, rfl⟩
end Go.Proofs.Qxb6618937a
