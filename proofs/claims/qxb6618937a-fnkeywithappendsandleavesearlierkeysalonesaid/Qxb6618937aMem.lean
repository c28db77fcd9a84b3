/-
  Rows of the call's own in memory: a block with known cells ('OwnBlk'), the keys' cells ('CellsK'), what stays behind a store, a draw, a grown world.
-/
import Derived.Test.Qxb6618937aBytes
import Derived.BigRegion
import Derived.Laws.OwnMore
namespace Go.Proofs.Qxb6618937a
open Go.RowKit

/-- Block g is a row of m cells of the element type E, not frozen, cell j holds C j. -/
def OwnBlk (w : World) (g : Nat) (E : TypeId) (m : Nat) (C : Nat → Value) : Prop :=
  ∃ cur : Array Value, w.heap[g]? = some (.cells cur E (0, 0)) ∧ cur.size = m ∧ ∀ j, j < m → cur[j]? = some (C j)

theorem OwnBlk.cell {w : World} {g : Nat} {E : TypeId} {m : Nat} {C : Nat → Value} (h : OwnBlk w g E m C) (j : Nat) (hj : j < m) : w.cell? ⟨g, j, none⟩ = some (C j) := by
  obtain ⟨cur, hg, _, hc⟩ := h
  rw [cell_of_row w g j cur E (0, 0) hg]
  exact hc j hj

theorem OwnBlk.free {w : World} {g : Nat} {E : TypeId} {m : Nat} {C : Nat → Value} (h : OwnBlk w g E m C) (j : Nat) : w.frozen? ⟨g, j, none⟩ = false := by
  obtain ⟨cur, hg, _, hc⟩ := h
  simp [World.frozen?, hg]

theorem OwnBlk.lt {w : World} {g : Nat} {E : TypeId} {m : Nat} {C : Nat → Value} (h : OwnBlk w g E m C) : g < w.heap.size := by
  obtain ⟨cur, hg, _, _⟩ := h
  exact (Array.getElem?_eq_some_iff.1 hg).1

/-- A function with one value turned. -/
def upd (C : Nat → Value) (j : Nat) (v : Value) : Nat → Value := fun i => if i = j then v else C i
theorem upd_at (C : Nat → Value) (j : Nat) (v : Value) : upd C j v j = v := by simp [upd]
theorem upd_ne (C : Nat → Value) (j : Nat) (v : Value) {i : Nat} (h : i ≠ j) : upd C j v i = C i := by simp [upd, h]

theorem OwnBlk.set {w : World} {g : Nat} {E : TypeId} {m : Nat} {C : Nat → Value} (h : OwnBlk w g E m C) (j : Nat) (v : Value) : OwnBlk (w.setCell ⟨g, j, none⟩ v) g E m (upd C j v) := by
  obtain ⟨cur, hg, hs, hc⟩ := h
  refine ⟨cur.setIfInBounds j v, ?_, by simpa using hs, ?_⟩
  · unfold World.setCell
    show (w.heap.modify g _)[g]? = _
    rw [Array.getElem?_modify, if_pos rfl, hg]
    rfl
  · intro i hi
    by_cases e : i = j
    · subst e
      rw [upd_at]
      simp [hs, hi]
    · rw [upd_ne _ _ _ e, Array.getElem?_setIfInBounds_ne (by omega)]
      exact hc i hi

theorem OwnBlk.drew {w : World} {g : Nat} {E : TypeId} {m : Nat} {C : Nat → Value} (h : OwnBlk w g E m C) : OwnBlk w.drew g E m C := h

theorem OwnBlk.below {w w' : World} {B g : Nat} {E : TypeId} {m : Nat} {C : Nat → Value} (h : OwnBlk w g E m C) (hb : Below B w w') (hg : g < B) : OwnBlk w' g E m C := by
  obtain ⟨cur, h1, h2, h3⟩ := h
  exact ⟨cur, (hb.block g hg).trans h1, h2, h3⟩

theorem OwnBlk.ofOwns {w : World} {base g n cap size : Nat} {E : TypeId} {xs : List Value} (h : w.ownsRow base E size (.slice (some ⟨g, 0, none⟩) n cap) n xs) (hcap : cap = n) : ∃ C, OwnBlk w g E (n * size) C := by
  rcases h.2 with ⟨h', _⟩ | ⟨g', cap', cur, h', _, hg, _, _, hsz, _⟩
  · simp at h'
  · simp only [Value.slice.injEq, Option.some.injEq, Addr.mk.injEq, and_true, true_and] at h'
    obtain ⟨rfl, rfl⟩ := h'
    subst hcap
    refine ⟨fun j => cur.getD j .nilIface, cur, hg, hsz, fun j hj => ?_⟩
    have : j < cur.size := by omega
    simp [this]

theorem Cells3.below {w w' : World} {a : Option Addr} {K : Steps} (h : Cells3 w a K) (hb : Below w.heap.size w w') : Cells3 w' a K := by
  intro i hi
  obtain ⟨b, off, rfl, hlt, c0, c1, c2, hz⟩ := h i hi
  exact ⟨b, off, rfl, Nat.lt_of_lt_of_le hlt hb.size, (hb.cell (p := ⟨b, off + i * 3, none⟩) hlt).trans c0, (hb.cell (p := ⟨b, off + i * 3 + 1, none⟩) hlt).trans c1, (hb.cell (p := ⟨b, off + i * 3 + 2, none⟩) hlt).trans c2, hz⟩

/-- The interface value that a key holds for a step. -/
def kv (K : Steps) (i : Nat) : Value := if K.B i = true then .iface 3 (.int .i64 (K.N i)) else .iface 9 (.string (K.S i))
theorem kv_int (K : Steps) (i : Nat) (h : K.B i = true) : kv K i = .iface 3 (.int .i64 (K.N i)) := by unfold kv; rw [if_pos h]
theorem kv_str (K : Steps) (i : Nat) (h : K.B i = false) : kv K i = .iface 9 (.string (K.S i)) := by unfold kv; rw [if_neg (by simp [h])]

/-- A key's cells. -/
def CellsK (w : World) (g : Nat) (K : Steps) : Prop := g < w.heap.size ∧ ∀ i, i < K.n → w.cell? ⟨g, i, none⟩ = some (kv K i)

theorem CellsK.below {w w' : World} {g : Nat} {K : Steps} (h : CellsK w g K) (hb : Below w.heap.size w w') : CellsK w' g K :=
  ⟨Nat.lt_of_lt_of_le h.1 hb.size, fun i hi => (hb.cell (p := ⟨g, i, none⟩) h.1).trans (h.2 i hi)⟩

theorem info38 : (Try.prog.info? 38).map (fun i => (i.zero, i.size, i.bytes)) = some (some (.agg #[.bool false, .string ⟨#[]⟩, .int .i64 0]), 3, 32) := by kernel_rfl
theorem info20 : (Try.prog.info? 20).map (fun i => (i.zero, i.size, i.bytes)) = some (some .nilIface, 1, 16) := by kernel_rfl

/-- Three stores into the call's own row, and a draw: the round of a loop that fills a row of steps. -/
theorem fill3 {w wr : World} {C : Nat → Value} {k m : Nat} (b : Bool) (s : ByteArray) (n : Int) (hO : OwnBlk wr w.heap.size 38 m C) (hB : Below w.heap.size w wr)
    (P : Nat → (Nat → Value) → Prop) (hP : ∀ i D, i < k → P i C → (D (i * 3) = C (i * 3) ∧ D (i * 3 + 1) = C (i * 3 + 1) ∧ D (i * 3 + 2) = C (i * 3 + 2)) → P i D)
    (hnew : ∀ D, D (k * 3) = .bool b → D (k * 3 + 1) = .string s → D (k * 3 + 2) = .int .i64 n → P k D) (hC : ∀ i, i < k → P i C) :
    ∃ D, OwnBlk (((wr.setCell ⟨w.heap.size, k * 3, none⟩ (.bool b)).setCell ⟨w.heap.size, k * 3 + 1, none⟩ (.string s)).setCell ⟨w.heap.size, k * 3 + 2, none⟩ (.int .i64 n)) w.heap.size 38 m D ∧
      (∀ i, i < k + 1 → P i D) ∧ Below w.heap.size w (((wr.setCell ⟨w.heap.size, k * 3, none⟩ (.bool b)).setCell ⟨w.heap.size, k * 3 + 1, none⟩ (.string s)).setCell ⟨w.heap.size, k * 3 + 2, none⟩ (.int .i64 n)) := by
  refine ⟨_, ((hO.set (k * 3) (.bool b)).set (k * 3 + 1) (.string s)).set (k * 3 + 2) (.int .i64 n), ?_, ((hB.setCell (Nat.le_refl _) _).setCell (Nat.le_refl _) _).setCell (Nat.le_refl _) _⟩
  intro i hi
  by_cases e : i = k
  · subst e
    refine hnew _ ?_ ?_ ?_
    · rw [upd_ne _ _ _ (by omega), upd_ne _ _ _ (by omega), upd_at]
    · rw [upd_ne _ _ _ (by omega), upd_at]
    · rw [upd_at]
  · refine hP i _ (by omega) (hC i (by omega)) ⟨?_, ?_, ?_⟩ <;> rw [upd_ne _ _ _ (by omega), upd_ne _ _ _ (by omega), upd_ne _ _ _ (by omega)]

/-- What a row of steps holds at i. -/
def Is3 (K : Steps) (i : Nat) (C : Nat → Value) : Prop := C (i * 3) = .bool (K.B i) ∧ C (i * 3 + 1) = .string (K.S i) ∧ C (i * 3 + 2) = .int .i64 (K.N i)

theorem Cells3.ofOwn {w : World} {g : Nat} {K : Steps} {C : Nat → Value} (h : OwnBlk w g 38 (K.n * 3) C) (hC : ∀ i, i < K.n → Is3 K i C) (hS : ∀ i, i < K.n → (K.S i).size ≤ 140737488355328) : Cells3 w (some ⟨g, 0, none⟩) K := by
  intro i hi
  obtain ⟨d0, d1, d2⟩ := hC i hi
  refine ⟨g, 0, rfl, h.lt, ?_, ?_, ?_, hS i hi⟩
  · rw [Nat.zero_add, h.cell _ (by omega), d0]
  · rw [Nat.zero_add, h.cell _ (by omega), d1]
  · rw [Nat.zero_add, h.cell _ (by omega), d2]
end Go.Proofs.Qxb6618937a
