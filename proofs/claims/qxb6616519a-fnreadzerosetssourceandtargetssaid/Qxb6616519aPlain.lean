/-
  PLAIN: a script of reads, the targets in the order first met, the sources. No Go in sight.
-/
import Derived.Test.Qxb6616519aRead
namespace Go.Proofs.Qxb6616519a
open Go.RowKit
set_option linter.unusedVariables false

/-- The targets after k rounds. -/
def runT (W : Int → Int) (J : Nat → Int) : Nat → List Int
  | 0 => []
  | k + 1 => addT (runT W J k) (W (J k))

/-- The sources after k rounds. -/
def runS (W : Int → Int) (J : Nat → Int) (S : Nat → Int) : Nat → (Nat → Int)
  | 0 => S
  | k + 1 => upd (runS W J S k) (J k).toNat (W (J k))

theorem addT_len (T : List Int) (x : Int) : (addT T x).length ≤ T.length + 1 := by
  unfold addT; split <;> simp
theorem mem_addT (T : List Int) (x y : Int) : y ∈ addT T x ↔ y ∈ T ∨ y = x := by
  unfold addT
  split
  · rename_i h
    constructor
    · exact .inl
    · rintro (h1 | rfl)
      · exact h1
      · exact h
  · simp
theorem addT_old {T : List Int} {x : Int} (h : x ∈ T) : addT T x = T := by unfold addT; rw [if_pos h]

theorem runT_len (W : Int → Int) (J : Nat → Int) (k : Nat) : (runT W J k).length ≤ k := by
  induction k with
  | zero => exact Nat.le_refl _
  | succ k ih => have := addT_len (runT W J k) (W (J k)); show (addT _ _).length ≤ _; omega

theorem runT_mem (W : Int → Int) (J : Nat → Int) (k : Nat) (y : Int) : y ∈ runT W J k ↔ ∃ i, i < k ∧ y = W (J i) := by
  induction k with
  | zero => simp [runT]
  | succ k ih =>
    show y ∈ addT _ _ ↔ _
    rw [mem_addT, ih]
    constructor
    · rintro (⟨i, h1, h2⟩ | h)
      · exact ⟨i, by omega, h2⟩
      · exact ⟨k, by omega, h⟩
    · rintro ⟨i, h1, h2⟩
      by_cases e : i = k
      · subst e; exact .inr h2
      · exact .inl ⟨i, by omega, h2⟩

theorem runT_at (W : Int → Int) (J : Nat → Int) {k i : Nat} (h : i < k) : W (J i) ∈ runT W J k := (runT_mem W J k _).2 ⟨i, h, rfl⟩

theorem addT_nodup {T : List Int} (h : T.Nodup) (x : Int) : (addT T x).Nodup := by
  unfold addT
  split
  · exact h
  · rename_i hx
    rw [List.nodup_append]
    refine ⟨h, by simp, fun a ha b hb => ?_⟩
    simp at hb
    subst hb
    intro e
    subst e
    exact hx ha

theorem runT_nodup (W : Int → Int) (J : Nat → Int) (k : Nat) : (runT W J k).Nodup := by
  induction k with
  | zero => exact List.nodup_nil
  | succ k ih => exact addT_nodup ih _

theorem runS_at (W : Int → Int) (J : Nat → Int) (S : Nat → Int) (k : Nat) (hJ : ∀ i, i < k → 0 ≤ J i) : ∀ i, i < k → runS W J S k (J i).toNat = W (J i) := by
  induction k with
  | zero => intro i hi; omega
  | succ k ih =>
    intro i hi
    show upd _ _ _ _ = _
    by_cases e : (J i).toNat = (J k).toNat
    · have h1 := hJ i hi
      have h2 := hJ k (by omega)
      have e' : J i = J k := by omega
      rw [e', upd_at]
    · rw [upd_ne _ _ _ e]
      have : i ≠ k := fun h => e (by rw [h])
      exact ih (fun i hi => hJ i (by omega)) i (by omega)

theorem upd_self {α : Type} (C : Nat → α) (j : Nat) : upd C j (C j) = C := by
  funext i
  by_cases e : i = j
  · subst e; rw [upd_at]
  · rw [upd_ne _ _ _ e]

theorem getD_idxOf {T : List Int} {x : Int} (h : x ∈ T) : T.getD (T.idxOf x) 0 = x := by
  have hl := List.idxOf_lt_length_of_mem h
  rw [List.getD_eq_getElem?_getD, List.getElem?_eq_getElem hl]
  simp [List.getElem_idxOf]

theorem idxOf_getD {T : List Int} (h : T.Nodup) {i : Nat} (hi : i < T.length) : T.idxOf (T.getD i 0) = i := by
  rw [List.getD_eq_getElem?_getD, List.getElem?_eq_getElem hi]
  exact h.idxOf_getElem i hi

/-- Views below a bound. -/
def IVb (B : Nat) (w : World) (a : Option Addr) (n : Nat) (Z : Nat → Int) : Prop :=
  ∀ i, i < n → ∃ b off, a = some ⟨b, off, none⟩ ∧ b < B ∧ w.cell? ⟨b, off + i, none⟩ = some (.int .i64 (Z i))

theorem IVb.iv {B : Nat} {w : World} {a : Option Addr} {n : Nat} {Z : Nat → Int} (h : IVb B w a n Z) : IV w a n Z := by
  intro i hi
  obtain ⟨b, off, e, _, hc⟩ := h i hi
  exact ⟨b, off, e, World.block_lt_of_cell? _ _ hc, hc⟩

theorem IVb.below {B B' : Nat} {w w' : World} {a : Option Addr} {n : Nat} {Z : Nat → Int} (h : IVb B w a n Z) (hb : Below B' w w') (hB : B ≤ B') : IVb B w' a n Z := by
  intro i hi
  obtain ⟨b, off, e, hlt, hc⟩ := h i hi
  exact ⟨b, off, e, hlt, (hb.cell (p := ⟨b, off + i, none⟩) (by show b < B'; omega)).trans hc⟩

theorem IV.toB {w : World} {a : Option Addr} {n : Nat} {Z : Nat → Int} (h : IV w a n Z) : IVb w.heap.size w a n Z := h

theorem IVb.mono {B B' : Nat} {w : World} {a : Option Addr} {n : Nat} {Z : Nat → Int} (h : IVb B w a n Z) (hB : B ≤ B') : IVb B' w a n Z := by
  intro i hi
  obtain ⟨b, off, e, hlt, hc⟩ := h i hi
  exact ⟨b, off, e, by omega, hc⟩

theorem RowI.ivb {w : World} {a : Option Addr} {n : Nat} {C : Nat → Int} {lo hi : Nat} (h : RowI w a n C lo hi) : IVb hi w a n C := by
  intro i hi'
  rcases h with rfl | ⟨g, rfl, _, h2, ho⟩
  · exact absurd hi' (Nat.not_lt_zero i)
  · exact ⟨g, 0, rfl, h2, by rw [Nat.zero_add]; exact ho.cell i hi'⟩

theorem Frm.ivb {L : Lay} {hi B : Nat} {w w' : World} {a : Option Addr} {n : Nat} {Z : Nat → Int} (h : IVb B w a n Z) (hf : Frm L hi w w') (h1 : B ≤ hi) (h2 : B ≤ L.l2) : IVb B w' a n Z := h.below (hf.below h1 h2) (Nat.le_refl _)

theorem Frm.row {L : Lay} {hi lo up : Nat} {w w' : World} {a : Option Addr} {n : Nat} {Z : Nat → Int} (h : RowI w a n Z lo up) (hf : Frm L hi w w') (h1 : up ≤ hi) (h2 : L.l3 ≤ lo ∨ up ≤ L.l2) : RowI w' a n Z lo up :=
  h.same (fun k hk1 hk2 => hf.2.2.2.2 k (by omega) (by omega))

theorem SessT.keep {L : Lay} {w w' : World} {S : Nat → Int} {T : List Int} (h : SessT L w S T) (hk : ∀ k, k < w.heap.size → w'.heap[k]? = w.heap[k]?) : SessT L w' S T := by
  obtain ⟨vT, vB, vG, vC, hs⟩ := h
  exact ⟨vT, vB, vG, vC, hs.keep hk⟩

theorem SessT.below {L : Lay} {w w' : World} {S : Nat → Int} {T : List Int} (h : SessT L w S T) (hb : Below w.heap.size w w') : SessT L w' S T := h.keep hb.block

theorem SessT.row {L : Lay} {w : World} {S : Nat → Int} {T : List Int} (h : SessT L w S T) : RowI w L.aS L.nR S L.l2 L.l3 := by
  obtain ⟨vT, vB, vG, vC, hs⟩ := h
  exact hs.st.sc

theorem SessT.lt {L : Lay} {w : World} {S : Nat → Int} {T : List Int} (h : SessT L w S T) : L.l3 ≤ L.gO ∧ L.gO < w.heap.size := by
  obtain ⟨vT, vB, vG, vC, hs⟩ := h
  have h1 := hs.lt
  obtain ⟨o1, o2, o3, o4, o5, o6, o7, o8, o9⟩ := hs.st.ord
  omega

/-- ZZNewSessionOrder, the lay as one letter. -/
theorem new_L (aO : Option Addr) (nO cO : Nat) (O : Nat → Int) (aZ : Option Addr) (nZ cZ : Nat) (Z : Nat → Int) (aR : Option Addr) (nR cR : Nat) (R : Nat → Int) (aS : Option Addr) (cS : Nat) (S : Nat → Int) (l0 l1 l2 l3 : Nat) (w : World)
    (hn : nO ≤ 16384) (hO : IV w aO nO O) (hz : RowI w aZ nZ Z l0 l1) (hr : RowI w aR nR R l1 l2) (hs : RowI w aS nR S l2 l3) (hl : l0 ≤ l1 ∧ l1 ≤ l2 ∧ l2 ≤ l3 ∧ l3 ≤ w.heap.size) :
    Calls Try.prog 10 #[.slice aO nO cO, .slice aZ nZ cZ, .slice aR nR cR, .slice aS nR cS] w fun e w' => ∃ L : Lay, (nO = L.nO ∧ O = L.O ∧ nZ = L.nZ ∧ Z = L.Z ∧ nR = L.nR ∧ R = L.R) ∧ (L.l0 = l0 ∧ L.l1 = l1 ∧ L.l2 = l2 ∧ L.l3 = l3 ∧ L.gO = w.heap.size) ∧
      e = .returned (.pointer (some ⟨L.bS, 0, none⟩)) ∧ SessT L w' S [] ∧ Below w.heap.size w w' := by
  refine (new_any aO nO cO O aZ nZ cZ Z aR nR cR R aS cS S l0 l1 l2 l3 w hn hO hz hr hs hl).mono ?_
  rintro e w' ⟨bH, gP, bD, bM, bS, rfl, h, hb⟩
  exact ⟨_, ⟨rfl, rfl, rfl, rfl, rfl, rfl⟩, ⟨rfl, rfl, rfl, rfl, rfl⟩, rfl, ⟨_, _, _, _, h⟩, hb⟩

theorem made4 (n : Nat) : ∀ j, j < n * 1 → (madeCells (Value.cells (.bool false)) (n * 1)).toList[j]? = some (.bool false) := by
  intro j hj
  unfold madeCells
  rw [Array.getElem?_toList, Array.getElem?_map, Array.getElem?_range, if_pos hj]
  show some ((#[Value.bool false] : Array Value)[j % 1]!) = _
  rw [Nat.mod_one]
  rfl

theorem runT_keep {W : Int → Int} {J : Nat → Int} {k : Nat} (h : W (J k) ∈ runT W J k) : runT W J (k + 1) = runT W J k := addT_old h
theorem runT_push {W : Int → Int} {J : Nat → Int} {k : Nat} (h : W (J k) ∉ runT W J k) : runT W J (k + 1) = runT W J k ++ [W (J k)] := by
  show addT _ _ = _
  unfold addT
  rw [if_neg h]

/-- A copied row. -/
theorem copied {w2 w3 : World} {cur : Array Value} {l : List Value} {n : Nat} {O : Nat → Int} (hB : Below w2.heap.size w2 w3) (hcur : w3.heap[w2.heap.size]? = some (.cells cur 3 (0, 0))) (hl : l = (List.range n).map fun i => Value.int .i64 (O i)) (ys : List Value) :
    IVb (w3.setRow w2.heap.size (l ++ ys).toArray).heap.size (w3.setRow w2.heap.size (l ++ ys).toArray) (some ⟨w2.heap.size, 0, none⟩) n O ∧ Below w2.heap.size w2 (w3.setRow w2.heap.size (l ++ ys).toArray) := by
  refine ⟨fun i hi => ⟨w2.heap.size, 0, rfl, ?_, ?_⟩, hB.trans ⟨rfl, rfl, rfl, by simp, fun k hk => setRow_other _ _ _ _ (by omega)⟩⟩
  · simpa using (Array.getElem?_eq_some_iff.1 hcur).1
  · rw [Nat.zero_add, cell_setRow_same _ _ _ cur _ 3 (0, 0) hcur, hl, List.getElem?_toArray, List.getElem?_append_left (by simpa using hi)]
    simp [hi]
end Go.Proofs.Qxb6616519a
