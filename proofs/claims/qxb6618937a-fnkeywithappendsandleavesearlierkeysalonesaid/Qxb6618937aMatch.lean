/-
  zzMatchAt (13), zzReadsAs (9).
-/
import Derived.Test.Qxb6618937aRead
import Derived.Deep.RegionWith
namespace Go.Proofs.Qxb6618937a
open Go.RowKit

/-- The step g.i agrees with the wanted w.j. -/
def Agree (G : Steps) (i : Nat) (W : Steps) (j : Nat) : Prop := if W.B j = true then G.B i = true ∧ G.N i = W.N j else G.B i = false ∧ G.S i = W.S j

set_option maxHeartbeats 400000 in
theorem match_any (a b : Option Addr) (c d : Nat) (G W : Steps) (off : Nat) (w : World) (hn : G.n ≤ 100000) (hG : Cells3 w a G) (hW : Cells3 w b W) (ho : off + W.n ≤ G.n) (hA : ∀ i, i < W.n → Agree G (off + i) W i) :
    Calls Try.prog 13 #[.slice a G.n c, .int .i64 off, .slice b W.n d] w fun e w' => e = .returned (.bool true) ∧ Below w.heap.size w w' := by
  have HG : Hid (Cells3 w a G) := hG
  have HW : Hid (Cells3 w b W) := hW
  have HA : Hid (∀ i, i < W.n → Agree G (off + i) W i) := hA
  clear hG hW hA
  go_enter Try.func13, Try.ntmps13
  go_wp2
  go_loopw [7] (fun i wr => ∃ (k : Nat), k ≤ W.n ∧ i = .int .i64 k ∧ Below w.heap.size w wr) (fun i _ => W.n - (intOf i).toNat)
  case atStart => exact ⟨0, Nat.zero_le _, rfl, Below.refl _ _⟩
  case round =>
    obtain ⟨k, hk, rfl, hB⟩ := hrel
    by_cases hlt : k < W.n
    · obtain ⟨b1, o1, rfl, hb1, p0, p1, p2, _⟩ := HG.out (off + k) (by omega)
      obtain ⟨b2, o2, rfl, hb2, q0, q1, q2, _⟩ := HW.out k hlt
      have d0 := (hB.cell (p := ⟨b1, o1 + (off + k) * 3, none⟩) hb1).trans p0
      have d1 := (hB.cell (p := ⟨b1, o1 + (off + k) * 3 + 1, none⟩) hb1).trans p1
      have d2 := (hB.cell (p := ⟨b1, o1 + (off + k) * 3 + 2, none⟩) hb1).trans p2
      have e0 := (hB.cell (p := ⟨b2, o2 + k * 3, none⟩) hb2).trans q0
      have e1 := (hB.cell (p := ⟨b2, o2 + k * 3 + 1, none⟩) hb2).trans q1
      have e2 := (hB.cell (p := ⟨b2, o2 + k * 3 + 2, none⟩) hb2).trans q2
      have hAk : Hid (Agree G (off + k) W k) := HA.out k hlt
      have HB : Hid (Below w.heap.size w wr) := hB
      have hsz := hB.size
      have i1 : (off : Int) + (k : Int) < (G.n : Int) := by omega
      have i2 : (0 : Int) ≤ (off : Int) + (k : Int) := by omega
      have i3 : ((off : Int) + (k : Int)).toNat = off + k := by omega
      have i4 : (k : Int) < (W.n : Int) := by omega
      have i5 : IntKind.i64.wrap ((off : Int) + (k : Int)) = (off : Int) + (k : Int) := by rw [IntKind.wrap_i64]; omega
      clear hB p0 p1 p2 q0 q1 q2
      go_wp2
      go_region_with (go_at_call 15; refine (same_any _ _ _ _ _ _ _ hAk.out).mono ?_; rintro e w' ⟨rfl, hb⟩; have HB2 : Hid _ := hb; clear hb)
      all_goals
        go_wp2
        go_roundw
        case rel => exact ⟨k + 1, by omega, by go_num, HB.out.drew.trans (HB2.out.mono hsz)⟩
        case measure => simp [intOf]; omega
    · go_wp2
      go_ret
      exact ⟨rfl, hB⟩

set_option maxHeartbeats 400000 in
theorem readsAs (a b1 b2 b3 : Option Addr) (c d1 d2 d3 : Nat) (G W1 W2 W3 : Steps) (w : World) (hn : G.n ≤ 100000) (hG : Cells3 w a G) (h1 : Cells3 w b1 W1) (h2 : Cells3 w b2 W2) (h3 : Cells3 w b3 W3)
    (hl : G.n = W1.n + W2.n + W3.n) (hA1 : ∀ i, i < W1.n → Agree G i W1 i) (hA2 : ∀ i, i < W2.n → Agree G (W1.n + i) W2 i) (hA3 : ∀ i, i < W3.n → Agree G (W1.n + W2.n + i) W3 i) :
    Calls Try.prog 9 #[.slice a G.n c, .slice b1 W1.n d1, .slice b2 W2.n d2, .slice b3 W3.n d3] w fun e w' => e = .returned (.bool true) ∧ Below w.heap.size w w' := by
  have i1 : W1.n + W2.n + W3.n = G.n := hl.symm
  have hne : ((G.n : Int) != (W1.n : Int) + (W2.n : Int) + (W3.n : Int)) = false := by
    have : (G.n : Int) = (W1.n : Int) + (W2.n : Int) + (W3.n : Int) := by omega
    simp [this]
  have z1 : W1.n ≤ 100000 := by omega
  have z2 : W2.n ≤ 100000 := by omega
  have z3 : W3.n ≤ 100000 := by omega
  have M1 : Hid (∀ w' : World, Below w.heap.size w w' → Calls Try.prog 13 #[.slice a G.n c, .int .i64 0, .slice b1 W1.n d1] w' fun e w2 => e = .returned (.bool true) ∧ Below w'.heap.size w' w2) :=
    fun w' hb => match_any a b1 c d1 G W1 0 w' hn (hG.below hb) (h1.below hb) (by omega) (fun i hi => by rw [Nat.zero_add]; exact hA1 i hi)
  have M2 : Hid (∀ w' : World, Below w.heap.size w w' → Calls Try.prog 13 #[.slice a G.n c, .int .i64 (W1.n : Int), .slice b2 W2.n d2] w' fun e w2 => e = .returned (.bool true) ∧ Below w'.heap.size w' w2) :=
    fun w' hb => match_any a b2 c d2 G W2 W1.n w' hn (hG.below hb) (h2.below hb) (by omega) hA2
  have M3 : Hid (∀ w' : World, Below w.heap.size w w' → Calls Try.prog 13 #[.slice a G.n c, .int .i64 ((W1.n : Int) + (W2.n : Int)), .slice b3 W3.n d3] w' fun e w2 => e = .returned (.bool true) ∧ Below w'.heap.size w' w2) :=
    fun w' hb => match_any a b3 c d3 G W3 (W1.n + W2.n) w' hn (hG.below hb) (h3.below hb) (by omega) hA3
  clear hG h1 h2 h3 hA1 hA2 hA3 hl i1
  go_enter Try.func9, Try.ntmps9
  go_wp2_with fail
  refine (M1.out w (Below.refl _ _)).mono ?_
  rintro e w1 ⟨rfl, hb⟩
  have B1 : Hid (Below w.heap.size w w1) := hb
  clear hb
  go_wp2_with fail
  refine (M2.out w1 B1.out).mono ?_
  rintro e w2 ⟨rfl, hb⟩
  have B2 : Hid (Below w.heap.size w w2) := B1.out.trans (hb.mono B1.out.size)
  clear hb
  go_wp2_with fail
  refine (M3.out w2 B2.out).mono ?_
  rintro e w3 ⟨rfl, hb⟩
  have B3 : Hid (Below w.heap.size w w3) := B2.out.trans (hb.mono B2.out.size)
  clear hb
  go_wp2
  go_ret
  exact ⟨rfl, B3.out⟩
end Go.Proofs.Qxb6618937a
