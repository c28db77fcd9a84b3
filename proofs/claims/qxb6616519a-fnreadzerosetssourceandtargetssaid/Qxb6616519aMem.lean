/-
  Rows of numbers in memory: what came in ('IV'), what the call itself made ('OwnBlk', 'RowI'); what stays behind stores and grown worlds.
-/
import Derived.Test.Qxb6616519aRows
import Derived.WalkKit
import Derived.WalkSpells
import Derived.WalkLawsBesides
import Derived.Laws.OwnMore
namespace Go.Proofs.Qxb6616519a
open Go.RowKit

/-- A row of numbers that can be read: its n first. -/
def IV (w : World) (a : Option Addr) (n : Nat) (Z : Nat → Int) : Prop :=
  ∀ i, i < n → ∃ b off, a = some ⟨b, off, none⟩ ∧ b < w.heap.size ∧ w.cell? ⟨b, off + i, none⟩ = some (.int .i64 (Z i))

/-- Block g is a row of m cells of the element type E, not frozen, cell j holds C j. -/
def OwnBlk (w : World) (g : Nat) (E : TypeId) (m : Nat) (C : Nat → Value) : Prop :=
  ∃ cur : Array Value, w.heap[g]? = some (.cells cur E (0, 0)) ∧ cur.size = m ∧ ∀ j, j < m → cur[j]? = some (C j)

section
variable {w w' : World} {g : Nat} {E : TypeId} {m : Nat} {C : Nat → Value}

theorem OwnBlk.cell (h : OwnBlk w g E m C) (j : Nat) (hj : j < m) : w.cell? ⟨g, j, none⟩ = some (C j) := by
  obtain ⟨cur, hg, _, hc⟩ := h
  rw [cell_of_row w g j cur E (0, 0) hg]
  exact hc j hj

theorem OwnBlk.free (h : OwnBlk w g E m C) (j : Nat) : w.frozen? ⟨g, j, none⟩ = false := by
  obtain ⟨cur, hg, _, hc⟩ := h
  simp [World.frozen?, hg]

theorem OwnBlk.lt (h : OwnBlk w g E m C) : g < w.heap.size := by
  obtain ⟨cur, hg, _, _⟩ := h
  exact (Array.getElem?_eq_some_iff.1 hg).1

/-- The same block, the same cells. -/
theorem OwnBlk.same (h : OwnBlk w g E m C) (hb : w'.heap[g]? = w.heap[g]?) : OwnBlk w' g E m C := by
  obtain ⟨cur, h1, h2, h3⟩ := h
  exact ⟨cur, hb.trans h1, h2, h3⟩

theorem OwnBlk.congr (h : OwnBlk w g E m C) {D : Nat → Value} (e : ∀ j, j < m → C j = D j) : OwnBlk w g E m D := by
  obtain ⟨cur, h1, h2, h3⟩ := h
  exact ⟨cur, h1, h2, fun j hj => by rw [h3 j hj, e j hj]⟩
end

/-- A function with one value turned. -/
def upd {α : Type} (C : Nat → α) (j : Nat) (v : α) : Nat → α := fun i => if i = j then v else C i
theorem upd_at {α : Type} (C : Nat → α) (j : Nat) (v : α) : upd C j v j = v := by simp [upd]
theorem upd_ne {α : Type} (C : Nat → α) (j : Nat) (v : α) {i : Nat} (h : i ≠ j) : upd C j v i = C i := by simp [upd, h]

theorem OwnBlk.set {w : World} {g : Nat} {E : TypeId} {m : Nat} {C : Nat → Value} (h : OwnBlk w g E m C) (j : Nat) (v : Value) : OwnBlk (w.setCell ⟨g, j, none⟩ v) g E m (upd C j v) := by
  obtain ⟨cur, hg, hs, hc⟩ := h
  refine ⟨cur.setIfInBounds j v, ?_, by simpa using hs, ?_⟩
  · unfold World.setCell
    show (w.heap.modify g _)[g]? = _
    rw [Array.getElem?_modify, if_pos rfl, hg]
    rfl
  · intro i hi
    by_cases e : i = j
    · subst e
      rw [upd_at]
      simp [hs, hi]
    · rw [upd_ne _ _ _ e, Array.getElem?_setIfInBounds_ne (by omega)]
      exact hc i hi

theorem heap_setCell_ne (w : World) (g j k : Nat) (v : Value) (h : k ≠ g) : (w.setCell ⟨g, j, none⟩ v).heap[k]? = w.heap[k]? := by
  unfold World.setCell
  show (w.heap.modify g _)[k]? = _
  rw [Array.getElem?_modify, if_neg (Ne.symm h)]

theorem size_setCell (w : World) (a : Addr) (v : Value) : (w.setCell a v).heap.size = w.heap.size := by simp [World.setCell]

theorem OwnBlk.ofOwns {w : World} {base g n cap size : Nat} {E : TypeId} {xs : List Value} (h : w.ownsRow base E size (.slice (some ⟨g, 0, none⟩) n cap) n xs) (hcap : cap = n) : ∃ C, OwnBlk w g E (n * size) C ∧ ∀ j, j < n * size → xs[j]? = some (C j) := by
  rcases h.2 with ⟨h', _⟩ | ⟨g', cap', cur, h', _, hg, _, _, hsz, htake⟩
  · simp at h'
  · simp only [Value.slice.injEq, Option.some.injEq, Addr.mk.injEq, and_true, true_and] at h'
    obtain ⟨rfl, rfl⟩ := h'
    subst hcap
    refine ⟨fun j => cur.getD j .nilIface, ⟨cur, hg, hsz, fun j hj => ?_⟩, fun j hj => ?_⟩
    · have : j < cur.size := by omega
      simp [this]
    · have : j < cur.size := by omega
      rw [← htake, List.getElem?_take, if_pos hj]
      simp [this]

/-- A row of numbers of the call's own: its block lies in [lo, hi). -/
def RowI (w : World) (a : Option Addr) (n : Nat) (C : Nat → Int) (lo hi : Nat) : Prop :=
  n = 0 ∨ ∃ g, a = some ⟨g, 0, none⟩ ∧ lo ≤ g ∧ g < hi ∧ OwnBlk w g 3 n (fun j => .int .i64 (C j))

theorem RowI.iv {w : World} {a : Option Addr} {n : Nat} {C : Nat → Int} {lo hi : Nat} (h : RowI w a n C lo hi) : IV w a n C := by
  intro i hi'
  rcases h with rfl | ⟨g, rfl, _, _, ho⟩
  · exact absurd hi' (Nat.not_lt_zero i)
  · exact ⟨g, 0, rfl, ho.lt, by rw [Nat.zero_add]; exact ho.cell i hi'⟩

theorem RowI.same {w w' : World} {a : Option Addr} {n : Nat} {C : Nat → Int} {lo hi : Nat} (h : RowI w a n C lo hi) (hb : ∀ k, lo ≤ k → k < hi → w'.heap[k]? = w.heap[k]?) : RowI w' a n C lo hi := by
  rcases h with h0 | ⟨g, e, h1, h2, ho⟩
  · exact .inl h0
  · exact .inr ⟨g, e, h1, h2, ho.same (hb g h1 h2)⟩

theorem RowI.congr {w : World} {a : Option Addr} {n : Nat} {C D : Nat → Int} {lo hi : Nat} (h : RowI w a n C lo hi) (e : ∀ j, j < n → C j = D j) : RowI w a n D lo hi := by
  rcases h with h0 | ⟨g, ea, h1, h2, ho⟩
  · exact .inl h0
  · exact .inr ⟨g, ea, h1, h2, ho.congr (fun j hj => by rw [e j hj])⟩

theorem RowI.mono {w : World} {a : Option Addr} {n : Nat} {C : Nat → Int} {lo hi lo' hi' : Nat} (h : RowI w a n C lo hi) (h1 : lo' ≤ lo) (h2 : hi ≤ hi') : RowI w a n C lo' hi' := by
  rcases h with h0 | ⟨g, ea, h3, h4, ho⟩
  · exact .inl h0
  · exact .inr ⟨g, ea, by omega, by omega, ho⟩

theorem IV.same {w w' : World} {a : Option Addr} {n : Nat} {Z : Nat → Int} (h : IV w a n Z) (B : Nat) (hB : w.heap.size ≤ B) (hb : Below B w w') : IV w' a n Z := by
  intro i hi
  obtain ⟨b, off, e, hlt, hc⟩ := h i hi
  exact ⟨b, off, e, Nat.lt_of_lt_of_le hlt hb.size, (hb.cell (p := ⟨b, off + i, none⟩) (by show b < B; omega)).trans hc⟩

/-- What came in stays, in a world in which the blocks below the call's first are as they were. -/
theorem IV.below {w w' : World} {a : Option Addr} {n : Nat} {Z : Nat → Int} (h : IV w a n Z) (hb : Below w.heap.size w w') : IV w' a n Z := h.same _ (Nat.le_refl _) hb

def IsBool (e : Ending) : Prop := ∃ β : Bool, e = .returned (.bool β)
theorem isBool_mk (β : Bool) : IsBool (.returned (.bool β)) := ⟨β, rfl⟩

theorem info3 : (Try.prog.info? 3).map (fun i => (i.zero, i.size, i.bytes)) = some (some (.int .i64 0), 1, 8) := by kernel_rfl
theorem info4 : (Try.prog.info? 4).map (fun i => (i.zero, i.size, i.bytes)) = some (some (.bool false), 1, 1) := by kernel_rfl
end Go.Proofs.Qxb6616519a
