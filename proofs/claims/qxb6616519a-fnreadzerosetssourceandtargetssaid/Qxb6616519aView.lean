/-
  What a walk is told of a slice of integers that came in.
-/
import Derived.Test.Qxb6616519aMem
import Derived.ProofKit
import Derived.OpenShut
import Derived.ChangeOld
import Derived.SizedLaws
import Derived.Deep.Slices
namespace Go.Proofs.Qxb6616519a
open Go.ChangeShapes Go.WideShapes Go.ChangeAt Go.RowKit Go.Deep

theorem own : ownKnob Try.prog.godebug = none := by kernel_rfl
theorem laidOut : laidOutB Try.prog = true := by kernel_rfl
theorem cells3 : Try.prog.cellsOf 3 = 1 := by kernel_rfl
theorem bytes3 : Try.prog.bytesOf 3 = 8 := by kernel_rfl

theorem view {H : Type} {enc : TypeId × Value → H} {W : World} {a0 : Option Addr} {len cap fuel : Nat} {d : DataW H} {p : List MemPlace} (h : DataW.trod enc Try.prog W 0 (fun _ => true) true fuel 22 [.slice a0 len cap] = some (d, p))
    (hw : ∀ m ∈ d.weights Try.prog 22, m ≤ reachBytes) : ∃ Z : Nat → Int, IV W a0 len Z ∧ len ≤ 140737488355328 := by
  have hr := reachBytes_lt
  rcases open_slice1 Try.underlying22 cells3 h with ⟨hcs, _⟩ | ⟨a, l, c, m, n, V, D, Pl, hcs, _, hl, hm, hmm, hx, hel⟩
  · simp at hcs
    obtain ⟨rfl, rfl, rfl⟩ := hcs
    exact ⟨fun _ => 0, fun i hi => absurd hi (Nat.not_lt_zero i), by omega⟩
  · simp at hcs
    obtain ⟨rfl, rfl, rfl⟩ := hcs
    simp only [if_pos] at hmm
    subst hmm
    simp only [Prod.mk.injEq] at hx
    obtain ⟨hd, _⟩ := hx
    subst hd
    have hlen : len * 8 ≤ reachBytes := by
      have := hw ((len + (m - len)) * 8) (by simp [DataW.weights, Try.underlying22, bytes3])
      omega
    have each : ∀ i, i < len → ∃ z : Int, W.cell? (a.add i) = some (.int .i64 z) := by
      intro i hi
      obtain ⟨h1, h2⟩ := hel i (by omega)
      obtain ⟨z, e, _⟩ := DataW.trod_int Try.underlying3 h2
      simp at e
      exact ⟨z, by rw [h1, e]⟩
    obtain ⟨f, hf⟩ := choose_lt each
    refine ⟨f, fun i hi => ?_, by omega⟩
    obtain ⟨b, off, spot⟩ := a
    have hspot : spot = none := by simpa [Addr.add] using World.cell?_spot (hf 0 (Nat.lt_of_le_of_lt (Nat.zero_le i) hi))
    subst hspot
    have e0 := hf i hi
    rw [add_plain] at e0
    exact ⟨b, off, rfl, World.block_lt_of_cell? _ _ e0, e0⟩
end Go.Proofs.Qxb6616519a
