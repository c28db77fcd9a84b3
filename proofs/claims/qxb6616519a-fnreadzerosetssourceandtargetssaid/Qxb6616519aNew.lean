/-
  ZZNewSessionOrder (10).
-/
import Derived.Test.Qxb6616519aSess
namespace Go.Proofs.Qxb6616519a
open Go.RowKit Go.Maps
set_option linter.unusedVariables false

theorem info57 : (Try.prog.info? 57).map (fun i => (i.zero, i.size, i.bytes)) = some (some (.agg #[.int .i64 0, .int .i64 0, .string ⟨#[]⟩, .string ⟨#[]⟩, .int .i64 0, .string ⟨#[]⟩, .string ⟨#[]⟩, .int .i64 0, .string ⟨#[]⟩, .bool false, .bool false, .int .i64 0, .int .i64 0]), 13, 136) := by kernel_rfl
theorem info119 : (Try.prog.info? 119).map (fun i => (i.zero, i.size, i.bytes)) = some (some (.agg #[.pointer none, .pointer none, .int .i64 0]), 3, 24) := by kernel_rfl

theorem made3_at (n i : Nat) (h : i < n) : let l := (madeCells (Value.cells (.agg #[.pointer none, .pointer none, .int .i64 0])) (n * 3)).toList
    l[i * 3]? = some (.pointer none) ∧ l[i * 3 + 1]? = some (.pointer none) ∧ l[i * 3 + 2]? = some (.int .i64 0) := by
  have key : ∀ j, j < n * 3 → (madeCells (Value.cells (.agg #[.pointer none, .pointer none, .int .i64 0])) (n * 3)).toList[j]? = some ((#[Value.pointer none, Value.pointer none, Value.int .i64 0] : Array Value)[j % 3]!) := by
    intro j hj
    unfold madeCells
    rw [Array.getElem?_toList, Array.getElem?_map, Array.getElem?_range, if_pos hj]
    rfl
  refine ⟨?_, ?_, ?_⟩
  · rw [key _ (by omega), show i * 3 % 3 = 0 by omega]; rfl
  · rw [key _ (by omega), show (i * 3 + 1) % 3 = 1 by omega]; rfl
  · rw [key _ (by omega), show (i * 3 + 2) % 3 = 2 by omega]; rfl

def boxD (bH gP : Nat) (aZ : Option Addr) (nZ cZ nO : Nat) : Array Value :=
  #[.pointer (some ⟨bH, 0, none⟩), .int .i64 0, .slice none 0 0, .slice none 0 0, .slice none 0 0, .slice none 0 0, .slice aZ nZ cZ, .slice none 0 0, .map none, .map none, .int .i64 0, .slice none 0 0, .slice (some ⟨gP, 0, none⟩) nO nO]
def boxS (bD bM : Nat) (aR : Option Addr) (nR cR : Nat) (aS : Option Addr) (cS : Nat) : Array Value :=
  #[.pointer none, .pointer (some ⟨bD, 0, none⟩), .slice aR nR cR, .int .i64 0, .slice none 0 0, .slice none 0 0, .slice aS nR cS, .slice none 0 0, .map (some bM), .slice none 0 0, .slice none 0 0, .map none, .slice none 0 0, .slice none 0 0, .slice none 0 0, .slice none 0 0, .slice none 0 0, .bool false, .bool false]

theorem ownBlk_lit {w : World} {g : Nat} {E : TypeId} (cs : Array Value) (h : w.heap[g]? = some (.cells cs E)) : OwnBlk w g E cs.size (fun j => cs.getD j .nilIface) :=
  ⟨cs, h, rfl, fun j hj => by simp [hj]⟩

theorem sess_new {w wr w2 : World} {hist : Array Value} {C : Nat → Value} {aZ aR aS : Option Addr} {nZ cZ nR cR cS nO l0 l1 l2 l3 : Nat} {Z R S O : Nat → Int} {ys : List Value}
    (hz : RowI wr aZ nZ Z l0 l1) (hr : RowI wr aR nR R l1 l2) (hs : RowI wr aS nR S l2 l3) (hl : l0 ≤ l1 ∧ l1 ≤ l2 ∧ l2 ≤ l3 ∧ l3 ≤ w.heap.size) (hO : OwnBlk wr w.heap.size 57 (nO * 13) C) (hC : ∀ i, i < nO → C (i * 13 + 1) = .int .i64 (O i))
    (hh : 2 ≤ hist.size) (hh1 : hist[1]? = some (.slice (some ⟨w.heap.size, 0, none⟩) nO nO)) (hgr : (wr.alloc (.cells hist 86)).grownBy w2 none)
    (hown : w2.ownsRow wr.heap.size 119 3 (.slice (some ⟨wr.heap.size + 1, 0, none⟩) nO nO) nO ys) (hys : ∀ i, i < nO → ys[i * 3]? = some (.pointer none) ∧ ys[i * 3 + 1]? = some (.pointer none) ∧ ys[i * 3 + 2]? = some (.int .i64 0)) :
    Sess ⟨aZ, nZ, cZ, Z, aR, nR, cR, R, aS, cS, nO, O, l0, l1, l2, l3, w.heap.size, wr.heap.size, wr.heap.size + 1, w2.heap.size, w2.heap.size + 1, w2.heap.size + 1 + 1⟩
      (((w2.alloc (.cells (boxD wr.heap.size (wr.heap.size + 1) aZ nZ cZ nO) 94)).alloc (.map #[] 0)).alloc (.cells (boxS w2.heap.size (w2.heap.size + 1) aR nR cR aS cS) 97))
      S [] [] 0 0 0 (.slice none 0 0) (.slice none 0 0) (.slice none 0 0) (.slice none 0 0) := by
  obtain ⟨h1, h2, h3, h4⟩ := hl
  have hOlt := hO.lt
  have hsz2 : wr.heap.size + 1 < w2.heap.size := by
    have := (hown.lt (wr.heap.size + 1) rfl).2
    exact this
  let W3 := ((w2.alloc (.cells (boxD wr.heap.size (wr.heap.size + 1) aZ nZ cZ nO) 94)).alloc (.map #[] 0)).alloc (.cells (boxS w2.heap.size (w2.heap.size + 1) aR nR cR aS cS) 97)
  have k2 : ∀ k, k < w2.heap.size → W3.heap[k]? = w2.heap[k]? := fun k hk => by
    show (((w2.heap.push _).push _).push _)[k]? = _
    rw [Array.getElem?_push, if_neg (by simp; omega), Array.getElem?_push, if_neg (by simp; omega), Array.getElem?_push, if_neg (by omega)]
  have kr : ∀ k, k < wr.heap.size → W3.heap[k]? = wr.heap[k]? := fun k hk => by
    rw [k2 k (by omega), hgr.block k (by simp; omega) (by simp)]
    exact heap_alloc_old wr _ hk
  have kD : W3.heap[w2.heap.size]? = some (.cells (boxD wr.heap.size (wr.heap.size + 1) aZ nZ cZ nO) 94) := by
    show (((w2.heap.push _).push _).push _)[w2.heap.size]? = _
    rw [Array.getElem?_push, if_neg (by simp; omega), Array.getElem?_push, if_neg (by simp), Array.getElem?_push, if_pos rfl]
  have kM : W3.heap[w2.heap.size + 1]? = some (.map #[] 0) := by
    show (((w2.heap.push _).push _).push _)[w2.heap.size + 1]? = _
    rw [Array.getElem?_push, if_neg (by simp), Array.getElem?_push, if_pos (by simp)]
  have kS : W3.heap[w2.heap.size + 1 + 1]? = some (.cells (boxS w2.heap.size (w2.heap.size + 1) aR nR cR aS cS) 97) := by
    show (((w2.heap.push _).push _).push _)[w2.heap.size + 1 + 1]? = _
    rw [Array.getElem?_push, if_pos (by simp)]
  refine ⟨⟨?_, hz.same (fun k _ hk => kr k (by omega)), hr.same (fun k _ hk => kr k (by omega)), hs.same (fun k _ hk => kr k (by omega)), ⟨C, hO.same (kr _ hOlt), hC⟩, ?_, ?_, ?_⟩, ?_, ?_, World.ownsRow_nil _ _ _ _, ⟨[], World.ownsRow_nil _ _ _ _⟩, World.ownsRow_nil _ _ _ _, World.ownsRow_nil _ _ _ _, .inl rfl⟩
  · exact ⟨h1, h2, h3, h4, hOlt, Nat.lt_succ_self _, hsz2, Nat.lt_succ_self _, Nat.lt_succ_self _⟩
  · have hb : W3.heap[wr.heap.size]? = some (.cells hist 86) := by
      rw [k2 _ (by omega), hgr.block _ (by simp) (by simp)]
      exact heap_alloc_new wr _
    refine ⟨_, _, hh, ownBlk_lit hist hb, ?_⟩
    show hist.getD 1 .nilIface = _
    have : (1 : Nat) < hist.size := hh
    simp [Array.getElem?_eq_getElem this] at hh1
    simp [this, hh1]
  · obtain ⟨D, hD, hy⟩ := OwnBlk.ofOwns hown rfl
    refine ⟨D, hD.same (k2 _ hsz2), fun i hi => ?_⟩
    obtain ⟨a0, a1, a2⟩ := hys i hi
    have hi' : i < nO := hi
    rw [hy _ (by omega)] at a0 a1 a2
    exact ⟨Option.some.inj a0, Option.some.inj a1, Option.some.inj a2⟩
  · exact ⟨_, ownBlk_lit _ kD, rfl, rfl, rfl⟩
  · refine ⟨0, .map [], ?_, Nat.le_refl _, fun x => ⟨rfl, fun h => by cases h⟩⟩
    have := World.ownsMap_made (w2.alloc (.cells (boxD wr.heap.size (wr.heap.size + 1) aZ nZ cZ nO) 94)) Try.prog 3 (plainElem (H := Unit) Try.prog 3)
    have h5 := this.alloc (.cells (boxS w2.heap.size (w2.heap.size + 1) aR nR cR aS cS) 97)
    simpa using h5
  · exact ⟨_, ownBlk_lit _ kS, rfl, rfl, rfl, rfl, rfl, rfl, rfl, rfl⟩

set_option maxHeartbeats 1000000 in
theorem new_any (aO : Option Addr) (nO cO : Nat) (O : Nat → Int) (aZ : Option Addr) (nZ cZ : Nat) (Z : Nat → Int) (aR : Option Addr) (nR cR : Nat) (R : Nat → Int) (aS : Option Addr) (cS : Nat) (S : Nat → Int) (l0 l1 l2 l3 : Nat) (w : World)
    (hn : nO ≤ 16384) (hO : IV w aO nO O) (hz : RowI w aZ nZ Z l0 l1) (hr : RowI w aR nR R l1 l2) (hs : RowI w aS nR S l2 l3) (hl : l0 ≤ l1 ∧ l1 ≤ l2 ∧ l2 ≤ l3 ∧ l3 ≤ w.heap.size) :
    Calls Try.prog 10 #[.slice aO nO cO, .slice aZ nZ cZ, .slice aR nR cR, .slice aS nR cS] w fun e w' => ∃ bH gP bD bM bS, e = .returned (.pointer (some ⟨bS, 0, none⟩)) ∧
      Sess ⟨aZ, nZ, cZ, Z, aR, nR, cR, R, aS, cS, nO, O, l0, l1, l2, l3, w.heap.size, bH, gP, bD, bM, bS⟩ w' S [] [] 0 0 0 (.slice none 0 0) (.slice none 0 0) (.slice none 0 0) (.slice none 0 0) ∧ Below w.heap.size w w' := by
  have HO : Hid (IV w aO nO O) := hO
  have HZ : Hid (RowI w aZ nZ Z l0 l1) := hz
  have HR : Hid (RowI w aR nR R l1 l2) := hr
  have HS : Hid (RowI w aS nR S l2 l3) := hs
  have HL : Hid (l0 ≤ l1 ∧ l1 ≤ l2 ∧ l2 ≤ l3 ∧ l3 ≤ w.heap.size) := hl
  clear hO hz hr hs hl
  have hmm := @run_makeMap Try.prog
  obtain ⟨i0, hi, hz0, hz1, hz2⟩ := info_parts info57
  obtain ⟨i1, hi', hz0', hz1', hz2'⟩ := info_parts info119
  go_enter Try.func10, Try.ntmps10
  go_wp2_with (at_make; refine wpList_make_full _ rfl _ _ 50 rfl w.heap.size 57 i0 _ 13 Try.underlying50 hi hz0 hz1 .i64 .i64 _ _ nO rfl rfl rfl rfl ?c1 ?c2 ?c3 ?_)
  case c1 => rw [hz2]; omega
  case c2 => unfold maxLen; omega
  case c3 => omega
  intro w1 hown hgr
  obtain ⟨C0, hO0, _⟩ := OwnBlk.ofOwns hown rfl
  have HO0 : Hid (OwnBlk w1 w.heap.size 57 (nO * 13) C0) := hO0
  have HB0 : Hid (Below w.heap.size w w1) := (Below.refl _ _).grown hgr (Nat.le_refl _) (fun _ h => by cases h)
  clear hi hz0 hz1 hz2 hO0 hown hgr
  go_wp2
  go_loopw [10] (fun i wr => ∃ (k : Nat) (C : Nat → Value), k ≤ nO ∧ i = .int .i64 k ∧ OwnBlk wr w.heap.size 57 (nO * 13) C ∧ (∀ i, i < k → C (i * 13 + 1) = .int .i64 (O i)) ∧ Below w.heap.size w wr) (fun i _ => nO - (intOf i).toNat)
  case atStart => exact ⟨0, C0, Nat.zero_le _, rfl, HO0.out, fun _ h => by omega, HB0.out⟩
  case round =>
    obtain ⟨k, C, hk, rfl, hO, hC, hB⟩ := hrel
    by_cases hlt : k < nO
    · obtain ⟨b, off, rfl, hb, c0⟩ := HO.out k hlt
      have f0 := hO.free (k * 13 + 1)
      have e0 := hO.cell (k * 13 + 1) (by omega)
      have d0 := (hB.cell (p := ⟨b, off + k, none⟩) hb).trans c0
      have HO1 : Hid (OwnBlk wr w.heap.size 57 (nO * 13) C) := hO
      have HC1 : Hid (∀ i, i < k → C (i * 13 + 1) = .int .i64 (O i)) := hC
      have HB1 : Hid (Below w.heap.size w wr) := hB
      clear hO hC hB c0 hi' hz0' hz1' hz2'
      generalize C (k * 13 + 1) = y at e0
      obtain ⟨x, hx⟩ : ∃ x, x = O k := ⟨_, rfl⟩
      rw [← hx] at d0
      have HX : Hid (x = O k) := hx
      clear hx
      go_wp2
      go_roundw
      case rel =>
        refine ⟨k + 1, upd C (k * 13 + 1) (.int .i64 x), by omega, by go_num, HO1.out.set _ _, fun i hi => ?_, HB1.out.setCell (Nat.le_refl _) _⟩
        by_cases e : i = k
        · subst e; rw [upd_at, HX.out]
        · rw [upd_ne _ _ _ (by omega)]; exact HC1.out i (by omega)
      case measure => simp [intOf]; omega
    · obtain rfl : k = nO := by omega
      have HO1 : Hid (OwnBlk wr w.heap.size 57 (k * 13) C) := hO
      have HC1 : Hid (∀ i, i < k → C (i * 13 + 1) = .int .i64 (O i)) := hC
      have HB1 : Hid (Below w.heap.size w wr) := hB
      have hsz := hB.size
      clear hO hC hB
      go_wp2_with (at_make; refine wpList_make_full _ rfl _ _ 87 rfl wr.heap.size 119 i1 _ 3 Try.underlying87 hi' hz0' hz1' .i64 .i64 _ _ k rfl rfl rfl rfl ?d1 ?d2 ?d3 ?_)
      case d1 => rw [hz2']; omega
      case d2 => unfold maxLen; omega
      case d3 => simp
      intro w2 hown2 hgr2
      have B2 : Hid (Below w.heap.size w w2) := (HB1.out.alloc hsz _).grown hgr2 (by simp; omega) (fun _ h => by cases h)
      have FIN : Hid _ := sess_new (cZ := cZ) (cR := cR) (cS := cS) (HZ.out.same (fun j _ hj => HB1.out.block j (by have := HL.out; omega))) (HR.out.same (fun j _ hj => HB1.out.block j (by have := HL.out; omega))) (HS.out.same (fun j _ hj => HB1.out.block j (by have := HL.out; omega))) HL.out HO1.out HC1.out
        (show 2 ≤ (Array.size _) by exact Nat.le_add_left _ _) rfl hgr2 hown2 (fun i hi => made3_at k i hi)
      have hsz2 := B2.out.size
      clear hown2 hgr2 hi' hz0' hz1' hz2'
      go_wp2
      go_ret
      refine ⟨_, _, _, _, _, rfl, FIN.out, ?_⟩
      exact ((B2.out.alloc hsz2 _).alloc (by simp; omega) _).alloc (by simp; omega) _
end Go.Proofs.Qxb6616519a
