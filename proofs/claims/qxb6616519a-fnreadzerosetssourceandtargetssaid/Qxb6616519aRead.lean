/-
  readZero (28), ZZReadZero (11), ZZTargetOf (20), and the plain readers of a session order (12, 14, 15, 16, 17, 18).
-/
import Derived.Test.Qxb6616519aTarget
import Derived.Test.Qxb6616519aSmall
namespace Go.Proofs.Qxb6616519a
open Go.RowKit Go.Maps
set_option linter.unusedVariables false

/-- Below hi every block but the source's is as it was. -/
def Frm (L : Lay) (hi : Nat) (w w' : World) : Prop :=
  w'.os = w.os ∧ w'.tape = w.tape ∧ w'.output = w.output ∧ w.heap.size ≤ w'.heap.size ∧ ∀ k, k < hi → ¬ (L.l2 ≤ k ∧ k < L.l3) → w'.heap[k]? = w.heap[k]?

theorem Frm.refl (L : Lay) (hi : Nat) (w : World) : Frm L hi w w := ⟨rfl, rfl, rfl, Nat.le_refl _, fun _ _ _ => rfl⟩
theorem Frm.trans {L : Lay} {hi : Nat} {a b c : World} (h : Frm L hi a b) (k : Frm L hi b c) : Frm L hi a c :=
  ⟨k.1.trans h.1, k.2.1.trans h.2.1, k.2.2.1.trans h.2.2.1, Nat.le_trans h.2.2.2.1 k.2.2.2.1, fun j h1 h2 => (k.2.2.2.2 j h1 h2).trans (h.2.2.2.2 j h1 h2)⟩
theorem Frm.mono {L : Lay} {hi hi' : Nat} {a b : World} (h : Frm L hi a b) (hh : hi' ≤ hi) : Frm L hi' a b := ⟨h.1, h.2.1, h.2.2.1, h.2.2.2.1, fun k h1 h2 => h.2.2.2.2 k (by omega) h2⟩
theorem Frm.below {L : Lay} {hi B : Nat} {a b : World} (h : Frm L hi a b) (h1 : B ≤ hi) (h2 : B ≤ L.l2) : Below B a b := ⟨h.1, h.2.1, h.2.2.1, h.2.2.2.1, fun k hk => h.2.2.2.2 k (by omega) (by omega)⟩
theorem Frm.ofBelow {L : Lay} {hi B : Nat} {a b : World} (h : Below B a b) (h1 : hi ≤ B) : Frm L hi a b := ⟨h.os, h.tape, h.output, h.size, fun k hk _ => h.block k (by omega)⟩

section
variable {L : Lay} {w : World} {S : Nat → Int} {TM TT : List Int} {nB nG nC : Nat} {vT vB vG vC : Value}

/-- A store into the source's row. -/
theorem Sess.setS (h : Sess L w S TM TT nB nG nC vT vB vG vC) {gS : Nat} (j : Nat) (x : Int) (hj : j < L.nR) (ha : L.aS = some ⟨gS, 0, none⟩) : Sess L (w.setCell ⟨gS, j, none⟩ (.int .i64 x)) (upd S j x) TM TT nB nG nC vT vB vG vC ∧ Frm L w.heap.size w (w.setCell ⟨gS, j, none⟩ (.int .i64 x)) := by
  obtain ⟨o1, o2, o3, o4, o5, o6, o7, o8, o9⟩ := h.st.ord
  obtain ⟨g, hg, hg1, hg2, hO⟩ : ∃ g, L.aS = some ⟨g, 0, none⟩ ∧ L.l2 ≤ g ∧ g < L.l3 ∧ OwnBlk w g 3 L.nR (fun j => .int .i64 (S j)) := by
    rcases h.st.sc with h0 | h0
    · omega
    · exact h0
  rw [ha] at hg
  simp only [Option.some.injEq, Addr.mk.injEq, and_true] at hg
  subst hg
  have hk : ∀ k, k ≠ gS → (w.setCell ⟨gS, j, none⟩ (.int .i64 x)).heap[k]? = w.heap[k]? := fun k hk => heap_setCell_ne _ _ _ _ _ hk
  have hb : ∀ {base e size n : Nat} {v : Value} {xs : List Value}, w.ownsRow (L.bS + 1) e size v n xs → ∀ k, v.ownBlock = some k → (w.setCell ⟨gS, j, none⟩ (.int .i64 x)).heap[k]? = w.heap[k]? := fun ho k e => hk k (by have := (ho.lt k e).1; omega)
  refine ⟨⟨⟨h.st.ord, h.st.zc.same (fun k _ h2 => hk k (by omega)), h.st.rc.same (fun k _ h2 => hk k (by omega)), .inr ⟨gS, ha, hg1, hg2, (hO.set j _).congr (fun i hi => ?_)⟩, ?_, ?_, ?_, ?_⟩, map_keep h.m (hk _ (by omega)), box_keep h.bx (hk _ (by omega)), own_keep h.oT (hb (base := 0) h.oT), ?_, own_keep h.oG (hb (base := 0) h.oG), own_keep h.oC (hb (base := 0) h.oC), h.ap⟩,
    ⟨rfl, rfl, rfl, by rw [size_setCell]; exact Nat.le_refl _, fun k _ h2 => hk k (by omega)⟩⟩
  · by_cases e : i = j
    · subst e; rw [upd_at, upd_at]
    · rw [upd_ne _ _ _ e, upd_ne _ _ _ e]
  · obtain ⟨C, h1, h2⟩ := h.st.ops
    exact ⟨C, h1.same (hk _ (by omega)), h2⟩
  · obtain ⟨C, m, h0, h1, h2⟩ := h.st.hb
    exact ⟨C, m, h0, h1.same (hk _ (by omega)), h2⟩
  · obtain ⟨C, h1, h2⟩ := h.st.past
    exact ⟨C, h1.same (hk _ (by omega)), h2⟩
  · obtain ⟨C, h1, h2⟩ := h.st.d
    exact ⟨C, h1.same (hk _ (by omega)), h2⟩
  · obtain ⟨xs, hB⟩ := h.oB
    exact ⟨xs, own_keep hB (hb (base := 0) hB)⟩
end

/-- The initial-value write of read j's object. -/
def Lay.wr (L : Lay) (j : Int) : Int := L.Z (L.O (L.R j.toNat).toNat).toNat

/-- Targets in the order first met. -/
def addT (T : List Int) (x : Int) : List Int := if x ∈ T then T else T ++ [x]

/-- A session order between two calls. -/
def SessT (L : Lay) (w : World) (S : Nat → Int) (T : List Int) : Prop := ∃ vT vB vG vC, Sess L w S T T T.length T.length T.length vT vB vG vC

theorem row_at {w : World} {a : Option Addr} {n : Nat} {C : Nat → Int} {lo hi : Nat} (h : RowI w a n C lo hi) {j : Nat} (hj : j < n) : ∃ g, a = some ⟨g, 0, none⟩ ∧ lo ≤ g ∧ g < hi ∧ OwnBlk w g 3 n (fun j => .int .i64 (C j)) := by
  rcases h with h0 | h0
  · omega
  · exact h0

set_option maxRecDepth 100000 in
set_option maxHeartbeats 2000000 in
theorem readZero_any {L : Lay} {w : World} {S : Nat → Int} {T : List Int} (h : SessT L w S T) (j : Int) (hd : Dom1 L.nO L.nZ L.nR L.O L.Z L.R j) (hT : T.length ≤ 100000) (hnO : L.nO ≤ 16384) :
    Calls Try.prog 28 #[.pointer (some ⟨L.bS, 0, none⟩), .int .i64 j] w fun e w' => e = .returned (.tuple #[]) ∧ SessT L w' (upd S j.toNat (L.wr j)) (addT T (L.wr j)) ∧ Frm L L.gO w w' ∧ (L.wr j ∈ T → Frm L w.heap.size w w') := by
  obtain ⟨vT, vB, vG, vC, hs⟩ := h
  have HS : Hid (Sess L w S T T T.length T.length T.length vT vB vG vC) := hs
  obtain ⟨j0, j1, r0, r1, b0, b1, x0, x1⟩ := hd
  obtain ⟨C, hO, e1, e2, e6, _⟩ := hs.bx
  have c1 := hO.cell 1 (by decide)
  have c2 := hO.cell 2 (by decide)
  have c6 := hO.cell 6 (by decide)
  obtain ⟨CD, hOD, eD0, eD6, _⟩ := hs.st.d
  have d0 := hOD.cell 0 (by decide)
  have d6 := hOD.cell 6 (by decide)
  obtain ⟨CH, mH, hm, hOH, eH⟩ := hs.st.hb
  have h1 := hOH.cell 1 (by omega)
  obtain ⟨gR, haR, _, _, hOR⟩ := row_at hs.st.rc (j := j.toNat) (by omega)
  obtain ⟨gS, haS, lS, uS, hOS⟩ := row_at hs.st.sc (j := j.toNat) (by omega)
  obtain ⟨CO, hOO, eO⟩ := hs.st.ops
  obtain ⟨gZ, haZ, _, _, hOZ⟩ := row_at hs.st.zc (j := (L.O (L.R j.toNat).toNat).toNat) (by omega)
  have cr := hOR.cell j.toNat (by omega)
  have cs := hOS.cell j.toNat (by omega)
  have fs := hOS.free j.toNat
  have co := hOO.cell ((L.R j.toNat).toNat * 13 + 1) (by omega)
  have cz := hOZ.cell (L.O (L.R j.toNat).toNat).toNat (by omega)
  rw [eO _ (by omega)] at co
  rw [e1] at c1
  rw [e2, haR] at c2
  rw [e6, haS] at c6
  rw [eD0] at d0
  rw [eD6, haZ] at d6
  rw [eH] at h1
  have od : Hid L.Ord := hs.st.ord
  have hw : Hid (L.wr j = L.Z (L.O (L.R j.toNat).toNat).toNat) := rfl
  have HA : Hid (L.aS = some ⟨gS, 0, none⟩) := haS
  clear hO e1 e2 e6 hOD eD0 eD6 hOH eH hOR haR hOS haS hOO eO hOZ haZ hs
  obtain ⟨x, hx⟩ : ∃ x, x = L.Z (L.O (L.R j.toNat).toNat).toNat := ⟨_, rfl⟩
  rw [← hx] at cz hw x0 x1
  clear hx
  obtain ⟨ob, hob⟩ : ∃ ob, ob = L.O (L.R j.toNat).toNat := ⟨_, rfl⟩
  rw [← hob] at co cz b0 b1
  clear hob
  obtain ⟨r, hr⟩ : ∃ r, r = L.R j.toNat := ⟨_, rfl⟩
  rw [← hr] at cr co r0 r1
  clear hr
  generalize S j.toNat = y at cs
  go_enter Try.func28, Try.ntmps28
  go_wp2_with fail
  go_quiet (fail)
  go_wp2_with fail
  have F0 : Frm L w.heap.size w (w.drewN nq) := ⟨rfl, rfl, rfl, Nat.le_refl _, fun _ _ _ => rfl⟩
  have S1 : Hid (Sess L ((w.drewN nq).setCell ⟨gS, j.toNat, none⟩ (.int .i64 x)) (upd S j.toNat x) T T T.length T.length T.length vT vB vG vC) := ((HS.out.drewN nq).setS j.toNat x (by omega) HA.out).1
  have F1 : Hid (Frm L w.heap.size w ((w.drewN nq).setCell ⟨gS, j.toNat, none⟩ (.int .i64 x))) := F0.trans ((HS.out.drewN nq).setS j.toNat x (by omega) HA.out).2
  have hgO : Hid (L.gO ≤ w.heap.size) := by
    have h2 := HS.out.lt
    have h3 := od.out.2.2.2.2
    show L.gO ≤ w.heap.size
    omega
  clear HS HA F0 c1 c2 c6 d0 d6 h1 cr cs fs co cz
  by_cases hxT : x ∈ T
  · refine (target_old S1.out x hxT x0 (by omega)).mono ?_
    rintro e w3 ⟨rfl, rfl⟩
    have HX : Hid (x ∈ T) := hxT
    clear hxT
    go_wp2
    go_end0
    refine ⟨rfl, ?_, F1.out.mono hgO.out, fun _ => F1.out⟩
    rw [hw.out, addT, if_pos HX.out]
    exact ⟨_, _, _, _, S1.out⟩
  · refine (target_new S1.out x hxT x0 x1 hT hnO).mono ?_
    rintro e w3 ⟨rfl, ⟨uT, uB, uG, uC, S3⟩, B3⟩
    have HX : Hid (x ∉ T) := hxT
    have HS3 : Hid (Sess L w3 (upd S j.toNat x) (T ++ [x]) (T ++ [x]) (T.length + 1) (T.length + 1) (T.length + 1) uT uB uG uC) := S3
    have HB3 : Hid (Below L.bM ((w.drewN nq).setCell ⟨gS, j.toNat, none⟩ (.int .i64 x)) w3) := B3
    clear hxT S3 B3
    go_wp2
    go_end0
    refine ⟨rfl, ?_, ?_, fun h => absurd (hw.out ▸ h) HX.out⟩
    · rw [hw.out, addT, if_neg HX.out]
      refine ⟨uT, uB, uG, uC, ?_⟩
      have e : (T ++ [x]).length = T.length + 1 := by simp
      rw [e]
      exact HS3.out
    · exact (F1.out.mono hgO.out).trans (Frm.ofBelow HB3.out (by have := od.out.2.2.2.2; omega))

/-- ZZReadZero. -/
theorem zzReadZero_any {L : Lay} {w : World} {S : Nat → Int} {T : List Int} (h : SessT L w S T) (j : Int) (hd : Dom1 L.nO L.nZ L.nR L.O L.Z L.R j) (hT : T.length ≤ 100000) (hnO : L.nO ≤ 16384) :
    Calls Try.prog 11 #[.pointer (some ⟨L.bS, 0, none⟩), .int .i64 j] w fun e w' => e = .returned (.tuple #[]) ∧ SessT L w' (upd S j.toNat (L.wr j)) (addT T (L.wr j)) ∧ Frm L L.gO w w' ∧ (L.wr j ∈ T → Frm L w.heap.size w w') := by
  have H : Hid (SessT L w S T) := h
  have HD : Hid (Dom1 L.nO L.nZ L.nR L.O L.Z L.R j) := hd
  clear h hd
  go_enter Try.func11, Try.ntmps11
  go_wp2_with fail
  refine (readZero_any H.out j HD.out hT hnO).mono ?_
  rintro e w1 ⟨rfl, q1, q2, q3⟩
  have Q1 : Hid (SessT L w1 (upd S j.toNat (L.wr j)) (addT T (L.wr j))) := q1
  have Q2 : Hid (Frm L L.gO w w1) := q2
  have Q3 : Hid (L.wr j ∈ T → Frm L w.heap.size w w1) := q3
  clear q1 q2 q3
  go_wp2
  go_end0
  exact ⟨rfl, Q1.out, Q2.out, Q3.out⟩

/-- ZZTargetOf at a known target. -/
theorem zzTargetOf_old {L : Lay} {w : World} {S : Nat → Int} {T : List Int} (h : SessT L w S T) (x : Int) (hx : x ∈ T) (hx0 : 0 ≤ x) (hx1 : x ≤ 100000) :
    Calls Try.prog 20 #[.pointer (some ⟨L.bS, 0, none⟩), .int .i64 x] w fun e w' => e = .returned (.int .i64 (T.idxOf x)) ∧ w' = w := by
  obtain ⟨vT, vB, vG, vC, hs⟩ := h
  have H : Hid (Sess L w S T T T.length T.length T.length vT vB vG vC) := hs
  have HX : Hid (x ∈ T) := hx
  clear hs hx
  go_enter Try.func20, Try.ntmps20
  go_wp2_with fail
  refine (target_old H.out x HX.out hx0 hx1).mono ?_
  rintro e w1 ⟨rfl, rfl⟩
  go_wp2
  go_ret
  exact ⟨rfl, rfl⟩

/-- A row of the call's own that can be read. -/
theorem iv_own {w : World} {base : Nat} {v : Value} {T : List Int} (h : w.ownsRow base 3 1 v T.length (T.map (Value.int .i64))) : ∃ a c, v = .slice a T.length c ∧ IV w a T.length (fun i => T.getD i 0) := by
  rcases h.2 with ⟨rfl, h0⟩ | ⟨g, cap, cur, rfl, _, hg, _, _, _, htake⟩
  · rw [h0]; exact ⟨none, 0, rfl, fun i hi => absurd hi (Nat.not_lt_zero i)⟩
  · refine ⟨_, _, rfl, fun i hi => ⟨g, 0, rfl, (Array.getElem?_eq_some_iff.1 hg).1, ?_⟩⟩
    rw [Nat.zero_add, cell_of_row w g i cur 3 (0, 0) hg]
    have h1 : (cur.toList.take (T.length * 1))[i]? = (T.map (Value.int .i64))[i]? := by rw [htake]
    rw [List.getElem?_take, if_pos (by omega)] at h1
    simp [hi] at h1
    simp [h1, hi]

/-- ZZTargets. -/
theorem zzTargets_any {L : Lay} {w : World} {S : Nat → Int} {T : List Int} (h : SessT L w S T) :
    Calls Try.prog 12 #[.pointer (some ⟨L.bS, 0, none⟩)] w fun e w' => (∃ a c, e = .returned (.slice a T.length c) ∧ IV w a T.length (fun i => T.getD i 0) ∧ ∀ k, (∃ d, a = some ⟨k, d, none⟩) → L.bS < k) ∧ w' = w := by
  obtain ⟨vT, vB, vG, vC, hs⟩ := h
  obtain ⟨C, hO, _, _, _, e7, _⟩ := hs.bx
  have c7 := hO.cell 7 (by decide)
  obtain ⟨a, c, hv, hiv⟩ := iv_own hs.oT
  have hlt : Hid (∀ k, (∃ d, a = some ⟨k, d, none⟩) → L.bS < k) := by
    rintro k ⟨d, rfl⟩
    have := (hs.oT.lt k (by rw [hv]; rfl)).1
    omega
  rw [e7, hv] at c7
  have HI : Hid (IV w a T.length (fun i => T.getD i 0)) := hiv
  clear hO e7 hs hiv hv
  go_enter Try.func12, Try.ntmps12
  go_wp2
  go_ret
  exact ⟨⟨a, c, rfl, HI.out, hlt.out⟩, rfl⟩

/-- ZZSource. -/
theorem zzSource_any {L : Lay} {w : World} {S : Nat → Int} {T : List Int} (h : SessT L w S T) :
    Calls Try.prog 14 #[.pointer (some ⟨L.bS, 0, none⟩)] w fun e w' => e = .returned (.slice L.aS L.nR L.cS) ∧ w' = w := by
  obtain ⟨vT, vB, vG, vC, hs⟩ := h
  obtain ⟨C, hO, _, _, e6, _⟩ := hs.bx
  have c6 := hO.cell 6 (by decide)
  rw [e6] at c6
  clear hO e6 hs
  go_enter Try.func14, Try.ntmps14
  go_wp2
  go_ret
  exact ⟨rfl, rfl⟩
end Go.Proofs.Qxb6616519a
