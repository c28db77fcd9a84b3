/-
  The other readers of a session order: ZZIsGrown (15), ZZIsChanged (16), ZZBeforeLen (17), ZZTargetIndex (18).
-/
import Derived.Test.Qxb6616519aPlain
namespace Go.Proofs.Qxb6616519a
open Go.RowKit Go.Maps
set_option linter.unusedVariables false

/-- A row of falses that can be read. -/
def FV (w : World) (a : Option Addr) (n : Nat) : Prop := ∀ i, i < n → ∃ b off, a = some ⟨b, off, none⟩ ∧ w.cell? ⟨b, off + i, none⟩ = some (.bool false)

theorem fv_own {w : World} {base n : Nat} {v : Value} (h : w.ownsRow base 4 1 v n (List.replicate n (.bool false))) : ∃ a c, v = .slice a n c ∧ FV w a n := by
  rcases h.2 with ⟨rfl, rfl⟩ | ⟨g, cap, cur, rfl, _, hg, _, _, _, htake⟩
  · exact ⟨none, 0, rfl, fun i hi => absurd hi (Nat.not_lt_zero i)⟩
  · refine ⟨_, _, rfl, fun i hi => ⟨g, 0, rfl, ?_⟩⟩
    rw [Nat.zero_add, cell_of_row w g i cur 4 (0, 0) hg]
    have h1 : (cur.toList.take (n * 1))[i]? = (List.replicate n (Value.bool false))[i]? := by rw [htake]
    rw [List.getElem?_take, if_pos (by omega)] at h1
    simp [hi] at h1
    simp [h1]

theorem zzIsGrown_any {L : Lay} {w : World} {S : Nat → Int} {T : List Int} (h : SessT L w S T) :
    Calls Try.prog 15 #[.pointer (some ⟨L.bS, 0, none⟩)] w fun e w' => (∃ a c, e = .returned (.slice a T.length c) ∧ FV w a T.length) ∧ w' = w := by
  obtain ⟨vT, vB, vG, vC, hs⟩ := h
  obtain ⟨C, hO, _, _, _, _, _, _, e14, _⟩ := hs.bx
  have c14 := hO.cell 14 (by decide)
  obtain ⟨a, c, hv, hfv⟩ := fv_own hs.oG
  rw [e14, hv] at c14
  have HF : Hid (FV w a T.length) := hfv
  clear hO e14 hs hfv hv
  go_enter Try.func15, Try.ntmps15
  go_wp2
  go_ret
  exact ⟨⟨a, c, rfl, HF.out⟩, rfl⟩

theorem zzIsChanged_any {L : Lay} {w : World} {S : Nat → Int} {T : List Int} (h : SessT L w S T) :
    Calls Try.prog 16 #[.pointer (some ⟨L.bS, 0, none⟩)] w fun e w' => (∃ a c, e = .returned (.slice a T.length c) ∧ FV w a T.length) ∧ w' = w := by
  obtain ⟨vT, vB, vG, vC, hs⟩ := h
  obtain ⟨C, hO, _, _, _, _, _, _, _, e15⟩ := hs.bx
  have c15 := hO.cell 15 (by decide)
  obtain ⟨a, c, hv, hfv⟩ := fv_own hs.oC
  rw [e15, hv] at c15
  have HF : Hid (FV w a T.length) := hfv
  clear hO e15 hs hfv hv
  go_enter Try.func16, Try.ntmps16
  go_wp2
  go_ret
  exact ⟨⟨a, c, rfl, HF.out⟩, rfl⟩

theorem zzBeforeLen_any {L : Lay} {w : World} {S : Nat → Int} {T : List Int} (h : SessT L w S T) :
    Calls Try.prog 17 #[.pointer (some ⟨L.bS, 0, none⟩)] w fun e w' => e = .returned (.int .i64 T.length) ∧ w' = w := by
  obtain ⟨vT, vB, vG, vC, hs⟩ := h
  obtain ⟨C, hO, _, _, _, _, _, e9, _⟩ := hs.bx
  have c9 := hO.cell 9 (by decide)
  obtain ⟨xs, hB⟩ := hs.oB
  obtain ⟨a, c, hv⟩ := own_shape hB
  rw [e9, hv] at c9
  clear hO e9 hs hB hv
  go_enter Try.func17, Try.ntmps17
  go_wp2
  go_ret
  exact ⟨rfl, rfl⟩

theorem ret_pair {a b : Int} (h : a = b) (β : Bool) : Ending.returned (.tuple #[.int .i64 a, .bool β]) = .returned (.tuple #[.int .i64 b, .bool β]) := by rw [h]

theorem zzTargetIndex_any {L : Lay} {w : World} {S : Nat → Int} {T : List Int} (h : SessT L w S T) (x : Int) (hx : x ∈ T) (hx0 : 0 ≤ x) (hx1 : x ≤ 100000) :
    Calls Try.prog 18 #[.pointer (some ⟨L.bS, 0, none⟩), .int .i64 x] w fun e w' => e = .returned (.tuple #[.int .i64 (T.idxOf x), .bool true]) ∧ w' = w := by
  obtain ⟨vT, vB, vG, vC, hs⟩ := h
  obtain ⟨C, hO, _, _, _, _, e8, _⟩ := hs.bx
  have c8 := hO.cell 8 (by decide)
  rw [e8] at c8
  obtain ⟨n, D, hown, _, hD⟩ := hs.m
  have hhas : Maps.has D (.int .i64 x) = true := by rw [(hD x).1]; simpa using hx
  have hat0 : Hid (D.atKey (.int .i64 x) (.lit (.int .i64 0)) = .lit (.int .i64 (T.idxOf x))) := (hD x).2 hx
  have hkey := keyOf_int_mk Try.underlying3 (wf_nat hx0 hx1)
  clear hO e8 hs hD
  go_enter Try.func18, Try.ntmps18
  go_wp2_with (at_lookup; refine wpList_lookup_own_ok_int _ rfl _ _ 90 rfl 3 3 .i64 law3 Try.underlying90 Try.underlying3 (zero3 _) L.bM n D rfl hown _ _ rfl hkey ?_; intro c hat hwc; have HAT : Hid _ := hat; clear hat)
  go_ret2
  refine ⟨ret_pair ?_ _, rfl⟩
  have := HAT.out
  rw [hat0.out] at this
  simp only [DataW.lit.injEq, Lit.int.injEq, true_and] at this
  exact this.symm
end Go.Proofs.Qxb6616519a
