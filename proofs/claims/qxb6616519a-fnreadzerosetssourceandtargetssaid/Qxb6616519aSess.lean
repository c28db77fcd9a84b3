/-
  A session order in memory: its fixed blocks, its map, its four growing rows; what each step of targetOf and readZero does to it. No walk here.
-/
import Derived.Test.Qxb6616519aMem
import Derived.Maps.OwnSet
import Derived.Deep.AppendLies
namespace Go.Proofs.Qxb6616519a
open Go.RowKit Go.Maps
set_option linter.unusedVariables false

/-- Where the session order lies, and what never turns in it. -/
structure Lay where
  aZ : Option Addr
  nZ : Nat
  cZ : Nat
  Z : Nat → Int
  aR : Option Addr
  nR : Nat
  cR : Nat
  R : Nat → Int
  aS : Option Addr
  cS : Nat
  nO : Nat
  O : Nat → Int
  l0 : Nat
  l1 : Nat
  l2 : Nat
  l3 : Nat
  gO : Nat
  bH : Nat
  gP : Nat
  bD : Nat
  bM : Nat
  bS : Nat

/-- The blocks in the order in which they were made. -/
def Lay.Ord (L : Lay) : Prop := L.l0 ≤ L.l1 ∧ L.l1 ≤ L.l2 ∧ L.l2 ≤ L.l3 ∧ L.l3 ≤ L.gO ∧ L.gO < L.bH ∧ L.bH < L.gP ∧ L.gP < L.bD ∧ L.bD < L.bM ∧ L.bM < L.bS

/-- What lies below the map: the three copies, the operations, the view. -/
structure Stat (L : Lay) (w : World) (S : Nat → Int) : Prop where
  ord : L.Ord
  zc : RowI w L.aZ L.nZ L.Z L.l0 L.l1
  rc : RowI w L.aR L.nR L.R L.l1 L.l2
  sc : RowI w L.aS L.nR S L.l2 L.l3
  ops : ∃ C, OwnBlk w L.gO 57 (L.nO * 13) C ∧ ∀ i, i < L.nO → C (i * 13 + 1) = .int .i64 (L.O i)
  hb : ∃ C m, 2 ≤ m ∧ OwnBlk w L.bH 86 m C ∧ C 1 = .slice (some ⟨L.gO, 0, none⟩) L.nO L.nO
  past : ∃ C, OwnBlk w L.gP 119 (L.nO * 3) C ∧ ∀ i, i < L.nO → C (i * 3) = .pointer none ∧ C (i * 3 + 1) = .pointer none ∧ C (i * 3 + 2) = .int .i64 0
  d : ∃ C, OwnBlk w L.bD 94 13 C ∧ C 0 = .pointer (some ⟨L.bH, 0, none⟩) ∧ C 6 = .slice L.aZ L.nZ L.cZ ∧ C 12 = .slice (some ⟨L.gP, 0, none⟩) L.nO L.nO

theorem Stat.keep {L : Lay} {w w' : World} {S : Nat → Int} (h : Stat L w S) (hk : ∀ k, k < L.bM → w'.heap[k]? = w.heap[k]?) : Stat L w' S := by
  obtain ⟨o1, o2, o3, o4, o5, o6, o7, o8, o9⟩ := h.ord
  refine ⟨h.ord, h.zc.same (fun k _ hi => hk k (by omega)), h.rc.same (fun k _ hi => hk k (by omega)), h.sc.same (fun k _ hi => hk k (by omega)), ?_, ?_, ?_, ?_⟩
  · obtain ⟨C, h1, h2⟩ := h.ops
    exact ⟨C, h1.same (hk _ (by omega)), h2⟩
  · obtain ⟨C, m, h0, h1, h2⟩ := h.hb
    exact ⟨C, m, h0, h1.same (hk _ (by omega)), h2⟩
  · obtain ⟨C, h1, h2⟩ := h.past
    exact ⟨C, h1.same (hk _ (by omega)), h2⟩
  · obtain ⟨C, h1, h2⟩ := h.d
    exact ⟨C, h1.same (hk _ (by omega)), h2⟩

/-- The map: each target at its own index. -/
def MapIs (w : World) (b : Nat) (T : List Int) : Prop :=
  ∃ (n : Nat) (D : DataW Unit), w.ownsMap Try.prog 3 (plainElem Try.prog 3) b n D ∧ n ≤ T.length ∧
    ∀ x : Int, Maps.has D (.int .i64 x) = decide (x ∈ T) ∧ (x ∈ T → D.atKey (.int .i64 x) (.lit (.int .i64 0)) = .lit (.int .i64 (T.idxOf x)))

/-- The box of the session order. -/
def BoxIs (L : Lay) (w : World) (vT vB vG vC : Value) : Prop :=
  ∃ C, OwnBlk w L.bS 97 19 C ∧ C 1 = .pointer (some ⟨L.bD, 0, none⟩) ∧ C 2 = .slice L.aR L.nR L.cR ∧ C 6 = .slice L.aS L.nR L.cS ∧ C 7 = vT ∧ C 8 = .map (some L.bM) ∧ C 9 = vB ∧ C 14 = vG ∧ C 15 = vC

/-- Two slices lie in two rows. -/
def Apart (v u : Value) : Prop := v.ownBlock = none ∨ v.ownBlock ≠ u.ownBlock

theorem Apart.symm {v u : Value} (h : Apart v u) : Apart u v := by
  unfold Apart at *
  cases hu : u.ownBlock with
  | none => exact .inl rfl
  | some k =>
    rcases h with h | h
    · right; rw [h]; simp
    · right; rw [hu] at h; exact Ne.symm h

/-- The session order: TM targets in the map, TT in the row; nB, nG, nC elements in the three rows beside. -/
structure Sess (L : Lay) (w : World) (S : Nat → Int) (TM TT : List Int) (nB nG nC : Nat) (vT vB vG vC : Value) : Prop where
  st : Stat L w S
  m : MapIs w L.bM TM
  bx : BoxIs L w vT vB vG vC
  oT : w.ownsRow (L.bS + 1) 3 1 vT TT.length (TT.map (Value.int .i64))
  oB : ∃ xs, w.ownsRow (L.bS + 1) 119 3 vB nB xs
  oG : w.ownsRow (L.bS + 1) 4 1 vG nG (List.replicate nG (.bool false))
  oC : w.ownsRow (L.bS + 1) 4 1 vC nC (List.replicate nC (.bool false))
  ap : Apart vG vC

theorem own_apart {w : World} {b1 b2 e1 e2 s1 s2 n1 n2 : Nat} {v1 v2 : Value} {x1 x2 : List Value} (h1 : w.ownsRow b1 e1 s1 v1 n1 x1) (h2 : w.ownsRow b2 e2 s2 v2 n2 x2) (he : e1 ≠ e2) : Apart v1 v2 := by
  rcases h1.2 with ⟨rfl, _⟩ | ⟨g, cap, cur, rfl, _, hg, _⟩
  · exact .inl rfl
  · rcases h2.2 with ⟨rfl, _⟩ | ⟨g', cap', cur', rfl, _, hg', _⟩
    · right; simp [Value.ownBlock]
    · right
      intro e
      simp [Value.ownBlock] at e
      subst e
      rw [hg] at hg'
      simp at hg'
      exact he hg'.2

theorem own_ge {w : World} {base e size n : Nat} {v : Value} {xs : List Value} (h : w.ownsRow base e size v n xs) {k : Nat} (hk : k < base) : some k ≠ v.ownBlock := by
  intro e'
  have := (h.lt k e'.symm).1
  omega

theorem own_keep {w w' : World} {base e size n : Nat} {v : Value} {xs : List Value} (h : w.ownsRow base e size v n xs) (hk : ∀ k, v.ownBlock = some k → w'.heap[k]? = w.heap[k]?) : w'.ownsRow base e size v n xs := by
  refine ⟨h.1, ?_⟩
  rcases h.2 with hn | ⟨g, cap, cur, rfl, hb, hg, rest⟩
  · exact .inl hn
  · exact .inr ⟨g, cap, cur, rfl, hb, (hk g rfl).trans hg, rest⟩

theorem map_keep {w w' : World} {b : Nat} {T : List Int} (h : MapIs w b T) (hk : w'.heap[b]? = w.heap[b]?) : MapIs w' b T := by
  obtain ⟨n, D, ⟨es, clock, h1, h2, h3, h4⟩, hn, hx⟩ := h
  exact ⟨n, D, ⟨es, clock, hk.trans h1, h2, h3, h4⟩, hn, hx⟩

theorem map_lt {w : World} {b : Nat} {T : List Int} (h : MapIs w b T) : b < w.heap.size := by
  obtain ⟨n, D, h1, _⟩ := h
  exact h1.lt

theorem box_keep {L : Lay} {w w' : World} {vT vB vG vC : Value} (h : BoxIs L w vT vB vG vC) (hk : w'.heap[L.bS]? = w.heap[L.bS]?) : BoxIs L w' vT vB vG vC := by
  obtain ⟨C, h1, h2⟩ := h
  exact ⟨C, h1.same hk, h2⟩

section
variable {L : Lay} {w w' : World} {S : Nat → Int} {TM TT : List Int} {nB nG nC : Nat} {vT vB vG vC : Value}

theorem Sess.lt (h : Sess L w S TM TT nB nG nC vT vB vG vC) : L.bS < w.heap.size := by
  obtain ⟨C, h1, _⟩ := h.bx
  exact h1.lt

/-- Nothing of what is there has turned. -/
theorem Sess.keep (h : Sess L w S TM TT nB nG nC vT vB vG vC) (hk : ∀ k, k < w.heap.size → w'.heap[k]? = w.heap[k]?) : Sess L w' S TM TT nB nG nC vT vB vG vC := by
  have hlt := h.lt
  have o := h.st.ord.2.2.2.2.2.2.2.2
  refine ⟨h.st.keep (fun k hk' => hk k (by omega)), map_keep h.m (hk _ (by omega)), box_keep h.bx (hk _ hlt), own_keep h.oT (fun k e => hk k (h.oT.lt k e).2), ?_, own_keep h.oG (fun k e => hk k (h.oG.lt k e).2), own_keep h.oC (fun k e => hk k (h.oC.lt k e).2), h.ap⟩
  obtain ⟨xs, hB⟩ := h.oB
  exact ⟨xs, own_keep hB (fun k e => hk k (hB.lt k e).2)⟩

theorem Sess.drewN (h : Sess L w S TM TT nB nG nC vT vB vG vC) (q : Nat) : Sess L (w.drewN q) S TM TT nB nG nC vT vB vG vC := h.keep (fun _ _ => rfl)
theorem Sess.drew (h : Sess L w S TM TT nB nG nC vT vB vG vC) : Sess L w.drew S TM TT nB nG nC vT vB vG vC := h.keep (fun _ _ => rfl)

/-- The map has been written. -/
theorem Sess.mapped (h : Sess L w S TM TT nB nG nC vT vB vG vC) {TM' : List Int} (hm : MapIs w' L.bM TM') (hg : w.grownBy w' (some L.bM)) : Sess L w' S TM' TT nB nG nC vT vB vG vC := by
  have hlt := h.lt
  have o := h.st.ord.2.2.2.2.2.2.2.2
  have hk : ∀ k, k < w.heap.size → k ≠ L.bM → w'.heap[k]? = w.heap[k]? := fun k h1 h2 => hg.block k h1 (by simpa using h2)
  have ne : ∀ {base e size n : Nat} {v : Value} {xs : List Value}, w.ownsRow (L.bS + 1) e size v n xs → ∀ k, v.ownBlock = some k → w'.heap[k]? = w.heap[k]? := fun ho k e => hk k (ho.lt k e).2 (by have := (ho.lt k e).1; omega)
  refine ⟨h.st.keep (fun k hk' => hk k (by omega) (by omega)), hm, box_keep h.bx (hk _ hlt (by omega)), own_keep h.oT (ne (base := 0) h.oT), ?_, own_keep h.oG (ne (base := 0) h.oG), own_keep h.oC (ne (base := 0) h.oC), h.ap⟩
  obtain ⟨xs, hB⟩ := h.oB
  exact ⟨xs, own_keep hB (ne (base := 0) hB)⟩

/-- WHAT A PUSH LEAVES ALONE: behind the element's own block, the append to the row v and the store into the box every other block is as it was. -/
theorem push_frame {o : Obj} {w2 : World} {v u : Value} {j bS : Nat} (hg : (w.alloc o).grownBy w2 v.ownBlock) : ∀ k, k < w.heap.size → some k ≠ v.ownBlock → k ≠ bS → (w2.setCell ⟨bS, j, none⟩ u).heap[k]? = w.heap[k]? := by
  intro k h1 h2 h3
  rw [heap_setCell_ne _ _ _ _ _ h3, hg.block k (by simp; omega) h2]
  exact heap_alloc_old w o h1

theorem push_box {o : Obj} {w2 : World} {v u : Value} {j : Nat} (h : BoxIs L w vT vB vG vC) (hv : some L.bS ≠ v.ownBlock) (hg : (w.alloc o).grownBy w2 v.ownBlock) :
    ∃ C, OwnBlk w L.bS 97 19 C ∧ OwnBlk (w2.setCell ⟨L.bS, j, none⟩ u) L.bS 97 19 (upd C j u) ∧ C 1 = .pointer (some ⟨L.bD, 0, none⟩) ∧ C 2 = .slice L.aR L.nR L.cR ∧ C 6 = .slice L.aS L.nR L.cS ∧ C 7 = vT ∧ C 8 = .map (some L.bM) ∧ C 9 = vB ∧ C 14 = vG ∧ C 15 = vC := by
  obtain ⟨C, h1, h2⟩ := h
  refine ⟨C, h1, (h1.same (w' := w2) ?_).set j u, h2⟩
  rw [hg.block L.bS (by have := h1.lt; simp; omega) hv]
  exact heap_alloc_old w o h1.lt

theorem apart_other {v u : Value} {w : World} {base e size n : Nat} {xs : List Value} (h : w.ownsRow base e size u n xs) (ha : Apart u v) (k : Nat) (hk : u.ownBlock = some k) : some k ≠ v.ownBlock := by
  rcases ha with h0 | h0
  · rw [h0] at hk; cases hk
  · rw [← hk]; exact h0

/-- A push onto the targets. -/
theorem Sess.pushT (h : Sess L w S TM TT nB nG nC vT vB vG vC) {o : Obj} {w2 : World} {x : Int} {g cap : Nat} (hg : (w.alloc o).grownBy w2 vT.ownBlock)
    (hown : w2.ownsRow (L.bS + 1) 3 1 (.slice (some ⟨g, 0, none⟩) (TT.length + 1) cap) (TT.length + 1) (TT.map (Value.int .i64) ++ [.int .i64 x])) :
    Sess L (w2.setCell ⟨L.bS, 7, none⟩ (.slice (some ⟨g, 0, none⟩) (TT.length + 1) cap)) S TM (TT ++ [x]) nB nG nC (.slice (some ⟨g, 0, none⟩) (TT.length + 1) cap) vB vG vC := by
  have hlt := h.lt
  have od := h.st.ord.2.2.2.2.2.2.2.2
  have fr := push_frame (j := 7) (u := .slice (some ⟨g, 0, none⟩) (TT.length + 1) cap) (bS := L.bS) hg
  obtain ⟨xs, hB⟩ := h.oB
  refine ⟨h.st.keep (fun k hk => fr k (by omega) (own_ge h.oT (by omega)) (by omega)), map_keep h.m (fr _ (by omega) (own_ge h.oT (by omega)) (by omega)), ?_, ?_, ⟨xs, own_keep hB fun k e => fr k (hB.lt k e).2 (apart_other hB (own_apart hB h.oT (by decide)) k e) (by have := (hB.lt k e).1; omega)⟩,
    own_keep h.oG fun k e => fr k (h.oG.lt k e).2 (apart_other h.oG (own_apart h.oG h.oT (by decide)) k e) (by have := (h.oG.lt k e).1; omega),
    own_keep h.oC fun k e => fr k (h.oC.lt k e).2 (apart_other h.oC (own_apart h.oC h.oT (by decide)) k e) (by have := (h.oC.lt k e).1; omega), h.ap⟩
  · obtain ⟨C, _, h1, e1, e2, e6, e7, e8, e9, e14, e15⟩ := push_box (j := 7) (u := .slice (some ⟨g, 0, none⟩) (TT.length + 1) cap) h.bx (own_ge h.oT (Nat.lt_succ_self _)) hg
    exact ⟨_, h1, by rw [upd_ne _ _ _ (by decide), e1], by rw [upd_ne _ _ _ (by decide), e2], by rw [upd_ne _ _ _ (by decide), e6], upd_at _ _ _, by rw [upd_ne _ _ _ (by decide), e8], by rw [upd_ne _ _ _ (by decide), e9], by rw [upd_ne _ _ _ (by decide), e14], by rw [upd_ne _ _ _ (by decide), e15]⟩
  · have := ownsRow_setCell_below hown (a := ⟨L.bS, 7, none⟩) (Nat.lt_succ_self _) (.slice (some ⟨g, 0, none⟩) (TT.length + 1) cap)
    simpa using this

/-- A push onto the row 'before'. -/
theorem Sess.pushB (h : Sess L w S TM TT nB nG nC vT vB vG vC) {o : Obj} {w2 : World} {ys : List Value} {g cap : Nat} (hg : (w.alloc o).grownBy w2 vB.ownBlock)
    (hown : w2.ownsRow (L.bS + 1) 119 3 (.slice (some ⟨g, 0, none⟩) (nB + 1) cap) (nB + 1) ys) :
    Sess L (w2.setCell ⟨L.bS, 9, none⟩ (.slice (some ⟨g, 0, none⟩) (nB + 1) cap)) S TM TT (nB + 1) nG nC vT (.slice (some ⟨g, 0, none⟩) (nB + 1) cap) vG vC := by
  have hlt := h.lt
  have od := h.st.ord.2.2.2.2.2.2.2.2
  have fr := push_frame (j := 9) (u := .slice (some ⟨g, 0, none⟩) (nB + 1) cap) (bS := L.bS) hg
  obtain ⟨xs, hB⟩ := h.oB
  refine ⟨h.st.keep (fun k hk => fr k (by omega) (own_ge hB (by omega)) (by omega)), map_keep h.m (fr _ (by omega) (own_ge hB (by omega)) (by omega)), ?_,
    own_keep h.oT fun k e => fr k (h.oT.lt k e).2 (apart_other h.oT (own_apart h.oT hB (by decide)) k e) (by have := (h.oT.lt k e).1; omega),
    ⟨ys, ownsRow_setCell_below hown (a := ⟨L.bS, 9, none⟩) (Nat.lt_succ_self _) _⟩,
    own_keep h.oG fun k e => fr k (h.oG.lt k e).2 (apart_other h.oG (own_apart h.oG hB (by decide)) k e) (by have := (h.oG.lt k e).1; omega),
    own_keep h.oC fun k e => fr k (h.oC.lt k e).2 (apart_other h.oC (own_apart h.oC hB (by decide)) k e) (by have := (h.oC.lt k e).1; omega), h.ap⟩
  obtain ⟨C, _, h1, e1, e2, e6, e7, e8, e9, e14, e15⟩ := push_box (j := 9) (u := .slice (some ⟨g, 0, none⟩) (nB + 1) cap) h.bx (own_ge hB (Nat.lt_succ_self _)) hg
  exact ⟨_, h1, by rw [upd_ne _ _ _ (by decide), e1], by rw [upd_ne _ _ _ (by decide), e2], by rw [upd_ne _ _ _ (by decide), e6], by rw [upd_ne _ _ _ (by decide), e7], by rw [upd_ne _ _ _ (by decide), e8], upd_at _ _ _, by rw [upd_ne _ _ _ (by decide), e14], by rw [upd_ne _ _ _ (by decide), e15]⟩

theorem own_block_new {vG vC : Value} {w : World} {n : Nat} {xs : List Value} {base e size g k cap : Nat} (hC : w.ownsRow base e size vC n xs) (ap : Apart vG vC) (hat : vG.ownBlock = some g ∨ g = w.heap.size + 1) :
    Apart (.slice (some ⟨g, 0, none⟩) k cap) vC := by
  right
  show some g ≠ vC.ownBlock
  intro e
  rcases hat with h1 | h1
  · rcases ap with h2 | h2
    · rw [h2] at h1; cases h1
    · exact h2 (h1.trans e)
  · have := (hC.lt g e.symm).2
    omega

theorem rep_succ (n : Nat) : List.replicate n (Value.bool false) ++ [.bool false] = List.replicate (n + 1) (.bool false) := by
  rw [List.replicate_succ']

/-- A push onto 'isGrown'. -/
theorem Sess.pushG (h : Sess L w S TM TT nB nG nC vT vB vG vC) {o : Obj} {w2 : World} {g cap : Nat} (hg : (w.alloc o).grownBy w2 vG.ownBlock)
    (hown : w2.ownsRow (L.bS + 1) 4 1 (.slice (some ⟨g, 0, none⟩) (nG + 1) cap) (nG + 1) (List.replicate nG (.bool false) ++ [.bool false])) (hat : vG.ownBlock = some g ∨ g = w.heap.size + 1) :
    Sess L (w2.setCell ⟨L.bS, 14, none⟩ (.slice (some ⟨g, 0, none⟩) (nG + 1) cap)) S TM TT nB (nG + 1) nC vT vB (.slice (some ⟨g, 0, none⟩) (nG + 1) cap) vC := by
  have hlt := h.lt
  have od := h.st.ord.2.2.2.2.2.2.2.2
  have fr := push_frame (j := 14) (u := .slice (some ⟨g, 0, none⟩) (nG + 1) cap) (bS := L.bS) hg
  obtain ⟨xs, hB⟩ := h.oB
  rw [rep_succ] at hown
  refine ⟨h.st.keep (fun k hk => fr k (by omega) (own_ge h.oG (by omega)) (by omega)), map_keep h.m (fr _ (by omega) (own_ge h.oG (by omega)) (by omega)), ?_,
    own_keep h.oT fun k e => fr k (h.oT.lt k e).2 (apart_other h.oT (own_apart h.oT h.oG (by decide)) k e) (by have := (h.oT.lt k e).1; omega),
    ⟨xs, own_keep hB fun k e => fr k (hB.lt k e).2 (apart_other hB (own_apart hB h.oG (by decide)) k e) (by have := (hB.lt k e).1; omega)⟩,
    ownsRow_setCell_below hown (a := ⟨L.bS, 14, none⟩) (Nat.lt_succ_self _) _,
    own_keep h.oC fun k e => fr k (h.oC.lt k e).2 (apart_other h.oC h.ap.symm k e) (by have := (h.oC.lt k e).1; omega), own_block_new h.oC h.ap hat⟩
  obtain ⟨C, _, h1, e1, e2, e6, e7, e8, e9, e14, e15⟩ := push_box (j := 14) (u := .slice (some ⟨g, 0, none⟩) (nG + 1) cap) h.bx (own_ge h.oG (Nat.lt_succ_self _)) hg
  exact ⟨_, h1, by rw [upd_ne _ _ _ (by decide), e1], by rw [upd_ne _ _ _ (by decide), e2], by rw [upd_ne _ _ _ (by decide), e6], by rw [upd_ne _ _ _ (by decide), e7], by rw [upd_ne _ _ _ (by decide), e8], by rw [upd_ne _ _ _ (by decide), e9], upd_at _ _ _, by rw [upd_ne _ _ _ (by decide), e15]⟩

/-- A push onto 'isChanged'. -/
theorem Sess.pushC (h : Sess L w S TM TT nB nG nC vT vB vG vC) {o : Obj} {w2 : World} {g cap : Nat} (hg : (w.alloc o).grownBy w2 vC.ownBlock)
    (hown : w2.ownsRow (L.bS + 1) 4 1 (.slice (some ⟨g, 0, none⟩) (nC + 1) cap) (nC + 1) (List.replicate nC (.bool false) ++ [.bool false])) (hat : vC.ownBlock = some g ∨ g = w.heap.size + 1) :
    Sess L (w2.setCell ⟨L.bS, 15, none⟩ (.slice (some ⟨g, 0, none⟩) (nC + 1) cap)) S TM TT nB nG (nC + 1) vT vB vG (.slice (some ⟨g, 0, none⟩) (nC + 1) cap) := by
  have hlt := h.lt
  have od := h.st.ord.2.2.2.2.2.2.2.2
  have fr := push_frame (j := 15) (u := .slice (some ⟨g, 0, none⟩) (nC + 1) cap) (bS := L.bS) hg
  obtain ⟨xs, hB⟩ := h.oB
  rw [rep_succ] at hown
  refine ⟨h.st.keep (fun k hk => fr k (by omega) (own_ge h.oC (by omega)) (by omega)), map_keep h.m (fr _ (by omega) (own_ge h.oC (by omega)) (by omega)), ?_,
    own_keep h.oT fun k e => fr k (h.oT.lt k e).2 (apart_other h.oT (own_apart h.oT h.oC (by decide)) k e) (by have := (h.oT.lt k e).1; omega),
    ⟨xs, own_keep hB fun k e => fr k (hB.lt k e).2 (apart_other hB (own_apart hB h.oC (by decide)) k e) (by have := (hB.lt k e).1; omega)⟩,
    own_keep h.oG fun k e => fr k (h.oG.lt k e).2 (apart_other h.oG h.ap k e) (by have := (h.oG.lt k e).1; omega),
    ownsRow_setCell_below hown (a := ⟨L.bS, 15, none⟩) (Nat.lt_succ_self _) _, (own_block_new h.oG h.ap.symm hat).symm⟩
  obtain ⟨C, _, h1, e1, e2, e6, e7, e8, e9, e14, e15⟩ := push_box (j := 15) (u := .slice (some ⟨g, 0, none⟩) (nC + 1) cap) h.bx (own_ge h.oC (Nat.lt_succ_self _)) hg
  exact ⟨_, h1, by rw [upd_ne _ _ _ (by decide), e1], by rw [upd_ne _ _ _ (by decide), e2], by rw [upd_ne _ _ _ (by decide), e6], by rw [upd_ne _ _ _ (by decide), e7], by rw [upd_ne _ _ _ (by decide), e8], by rw [upd_ne _ _ _ (by decide), e9], by rw [upd_ne _ _ _ (by decide), e14], upd_at _ _ _⟩
end
end Go.Proofs.Qxb6616519a
