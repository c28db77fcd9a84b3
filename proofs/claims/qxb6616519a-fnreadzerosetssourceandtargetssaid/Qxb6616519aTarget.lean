/-
  targetOf (29).
-/
import Derived.Test.Qxb6616519aNew
import Derived.Deep.Cut
import Derived.Deep.RegionLaw
import Derived.Deep.DrawnRows
namespace Go.Proofs.Qxb6616519a
open Go.RowKit Go.Maps
set_option linter.unusedVariables false
attribute [local go_sem ↓] Go.wp_at_zero Go.wp_at_succ

theorem law3 : Keyed Try.prog 3 := int_keyed Try.underlying3
theorem zero3 (w : World) : (zeroValue 3).run Try.prog w = .ok (.int .i64 0) w := by kernel_rfl

theorem wf_nat {x : Int} (h0 : 0 ≤ x) (h1 : x ≤ 100000) : (Lit.int .i64 x).wf = true := by
  have e1 : IntKind.i64.min = -9223372036854775808 := rfl
  have e2 : IntKind.i64.max = 9223372036854775807 := rfl
  simp [Lit.wf, e1, e2]
  omega

theorem own_shape {w : World} {base e size n : Nat} {v : Value} {xs : List Value} (h : w.ownsRow base e size v n xs) : ∃ a c, v = .slice a n c := by
  rcases h.2 with ⟨rfl, rfl⟩ | ⟨g, cap, cur, rfl, _⟩
  · exact ⟨_, _, rfl⟩
  · exact ⟨_, _, rfl⟩

theorem ret_int {a b : Int} (h : a = b) : Ending.returned (.int .i64 a) = .returned (.int .i64 b) := by rw [h]

/-- A known target. -/
theorem target_old {L : Lay} {w : World} {S : Nat → Int} {T TT : List Int} {nB nG nC : Nat} {vT vB vG vC : Value} (h : Sess L w S T TT nB nG nC vT vB vG vC) (x : Int) (hx : x ∈ T) (hx0 : 0 ≤ x) (hx1 : x ≤ 100000) :
    Calls Try.prog 29 #[.pointer (some ⟨L.bS, 0, none⟩), .int .i64 x] w fun e w' => e = .returned (.int .i64 (T.idxOf x)) ∧ w' = w := by
  obtain ⟨C, hO, _, _, _, _, e8, _⟩ := h.bx
  have c8 := hO.cell 8 (by decide)
  rw [e8] at c8
  obtain ⟨n, D, hown, _, hD⟩ := h.m
  have hhas : Maps.has D (.int .i64 x) = true := by rw [(hD x).1]; simpa using hx
  have hat0 : Hid (D.atKey (.int .i64 x) (.lit (.int .i64 0)) = .lit (.int .i64 (T.idxOf x))) := (hD x).2 hx
  have hkey := keyOf_int_mk Try.underlying3 (wf_nat hx0 hx1)
  clear hO e8 h hD
  go_enter Try.func29, Try.ntmps29
  go_wp2_with (at_lookup; refine wpList_lookup_own_ok_int _ rfl _ _ 90 rfl 3 3 .i64 law3 Try.underlying90 Try.underlying3 (zero3 _) L.bM n D rfl hown _ _ rfl hkey ?_; intro c hat hwc; have HAT : Hid _ := hat; clear hat)
  go_ret
  refine ⟨ret_int ?_, rfl⟩
  have := HAT.out
  rw [hat0.out] at this
  simp only [DataW.lit.injEq, Lit.int.injEq, true_and] at this
  exact this.symm

/-- The map behind a store of a new target at its index. -/
theorem map_push {w w' : World} {b n : Nat} {D : DataW Unit} {T : List Int} {x : Int} (h : w.ownsMap Try.prog 3 (plainElem Try.prog 3) b n D) (hn : n ≤ T.length) (hD : ∀ y : Int, Maps.has D (.int .i64 y) = decide (y ∈ T) ∧ (y ∈ T → D.atKey (.int .i64 y) (.lit (.int .i64 0)) = .lit (.int .i64 (T.idxOf y)))) (hx : x ∉ T)
    (h' : w'.ownsMap Try.prog 3 (plainElem Try.prog 3) b (n + 1) (D.put (.int .i64 x) (.lit (.int .i64 (T.length : Int))))) : MapIs w' b (T ++ [x]) := by
  refine ⟨n + 1, _, h', by simp; omega, fun y => ?_⟩
  by_cases e : y = x
  · subst e
    refine ⟨?_, fun _ => ?_⟩
    · rw [has_put_same h.isMap (by simp [WideAt.IsKeyLit])]
      simp
    · rw [atKey_put_same h.isMap (by simp [WideAt.IsKeyLit])]
      rw [List.idxOf_append, if_neg hx]
      simp
  · have hne : (Lit.int .i64 y) ≠ (.int .i64 x) := by simpa using e
    refine ⟨?_, fun hy => ?_⟩
    · rw [has_put_other hne, (hD y).1]
      simp [e]
    · have hyT : y ∈ T := by simpa [e] using hy
      rw [atKey_put_other hne, (hD y).2 hyT, List.idxOf_append, if_pos hyT]

set_option maxRecDepth 100000 in
set_option maxHeartbeats 2000000 in
theorem target_new {L : Lay} {w : World} {S : Nat → Int} {T : List Int} {vT vB vG vC : Value} (h : Sess L w S T T T.length T.length T.length vT vB vG vC) (x : Int) (hx : x ∉ T) (hx0 : 0 ≤ x) (hx1 : x < L.nO) (hT : T.length ≤ 100000) (hnO : L.nO ≤ 16384) :
    Calls Try.prog 29 #[.pointer (some ⟨L.bS, 0, none⟩), .int .i64 x] w fun e w' => e = .returned (.int .i64 T.length) ∧ (∃ uT uB uG uC, Sess L w' S (T ++ [x]) (T ++ [x]) (T.length + 1) (T.length + 1) (T.length + 1) uT uB uG uC) ∧ Below L.bM w w' := by
  have H : Hid (Sess L w S T T T.length T.length T.length vT vB vG vC) := h
  have HX : Hid (x ∉ T) := hx
  obtain ⟨C, hO, e1, _, _, e7, e8, _⟩ := h.bx
  obtain ⟨aT, cT, hvT⟩ := own_shape h.oT
  have c7 := hO.cell 7 (by decide)
  have c8 := hO.cell 8 (by decide)
  rw [e8] at c8
  rw [e7, hvT] at c7
  obtain ⟨n, D, hown, hnT, hD⟩ := h.m
  have hhas : Maps.has D (.int .i64 x) = false := by rw [(hD x).1]; simpa using hx
  have HD : Hid _ := hD
  have HO : Hid (w.ownsMap Try.prog 3 (plainElem Try.prog 3) L.bM n D) := hown
  have hkey := keyOf_int_mk Try.underlying3 (wf_nat hx0 (by omega))
  have hlb := h.lt
  have od : Hid L.Ord := h.st.ord
  clear hO e1 e7 e8 h hD hx
  go_enter Try.func29, Try.ntmps29
  go_upto_region 6 with (first | (at_lookup; refine wpList_lookup_own_ok_int _ rfl _ _ 90 rfl 3 3 .i64 law3 Try.underlying90 Try.underlying3 (zero3 _) L.bM n D rfl hown _ _ rfl hkey ?_; intro c hat hwc; clear hat hwc) | (at_mapUpdate; refine wpList_mapUpdate_own _ rfl _ _ _ 90 rfl 3 3 law3 Try.underlying90 _ L.bM n D rfl hown (by unfold maxLen; omega) _ _ _ rfl rfl hkey _ [] (plainElem_int Try.underlying3 (wf_nat (by omega) (by omega))) ?_; intro w1 hown1 hgr1))
  have S1 : Hid (Sess L w1 S (T ++ [x]) T T.length T.length T.length vT vB vG vC) := H.out.mapped (map_push HO.out hnT HD.out HX.out hown1) hgr1
  have B1 : Hid (Below L.bM w w1) := (Below.refl _ _).grown hgr1 (by have := od.out.2.2.2.2.2.2.2.2; omega) (fun k hk => by cases hk; exact Nat.le_refl _)
  clear hown hown1 hgr1 H HO HD hnT c7 c8 hkey hhas
  obtain ⟨C1, hO1, _, _, _, e7, _⟩ := S1.out.bx
  have c7 := hO1.cell 7 (by decide)
  rw [e7, hvT] at c7
  have hfr := S1.out.oT
  have hlt1 := S1.out.lt
  have f7 := hO1.free 7
  have HO1 : Hid (OwnBlk w1 L.bS 97 19 C1) := hO1
  have oT1 : Hid (w1.ownsRow (L.bS + 1) 3 1 vT T.length (T.map (Value.int .i64))) := S1.out.oT
  obtain ⟨i0, hi, hz0, hz1, hz2⟩ := info_parts info3
  clear hO1 e7 hfr
  go_upto_region 7 with (at_builtin; refine wpList_append_lies _ rfl _ _ 22 rfl (L.bS + 1) 3 i0 (.int .i64 0) 1 8 Try.underlying22 hi hz0 hz1 hz2 rfl (by decide) vT T.length (T.map (Value.int .i64)) (by rw [hvT]; rfl) (oT1.out.alloc _) ⟨w1.heap.size, 0, none⟩ 1 1 [.int .i64 x] rfl rfl (cell_one_new _ _ _) (by simp [Value.oneCell']) (by decide) (by unfold maxLen; omega) (by omega) (by simp; omega) (w1.heap.size + 1) (by simp) ?_; intro g cap w2 hown2 hgr2 hat2 hlt2; have hb2 := HO1.out.same (w' := w2) (by rw [hgr2.block L.bS (by simp; omega) (own_ge oT1.out (Nat.lt_succ_self _))]; exact heap_alloc_old w1 _ hlt1); have c72 := hb2.cell 7 (by decide); have f72 := hb2.free 7)
  have hle1 : L.bM ≤ w1.heap.size := by have := od.out.2.2.2.2.2.2.2.2; omega
  have S2 : Hid (Sess L (w2.setCell ⟨L.bS, 7, none⟩ (.slice (some ⟨g, 0, none⟩) (T.length + 1) cap)) S (T ++ [x]) (T ++ [x]) T.length T.length T.length (.slice (some ⟨g, 0, none⟩) (T.length + 1) cap) vB vG vC) := S1.out.pushT hgr2 hown2
  have B2 : Hid (Below L.bM w (w2.setCell ⟨L.bS, 7, none⟩ (.slice (some ⟨g, 0, none⟩) (T.length + 1) cap))) :=
    ((B1.out.alloc hle1 _).grown hgr2 (by simp; omega) (fun k hk => by have h1 := (oT1.out.lt k hk).1; have h2 := od.out.2.2.2.2.2.2.2.2; omega)).setCell (Nat.le_of_lt od.out.2.2.2.2.2.2.2.2) _
  clear hown2 hgr2 hat2 hlt2 hb2 c72 f72 S1 B1 c7 f7 HO1 oT1 hi hz0 hz1 hz2 hlt1 hle1
  generalize w2.setCell ⟨L.bS, 7, none⟩ (.slice (some ⟨g, 0, none⟩) (T.length + 1) cap) = w3 at *
  generalize (Value.slice (some ⟨g, 0, none⟩) (T.length + 1) cap) = uT at S2
  obtain ⟨C3, hO3, e1, _, _, _, _, e9, _⟩ := S2.out.bx
  obtain ⟨xs3, hB3⟩ := S2.out.oB
  obtain ⟨aB, cB, hvB⟩ := own_shape hB3
  subst hvB
  have c1 := hO3.cell 1 (by decide)
  rw [e1] at c1
  have c9 := hO3.cell 9 (by decide)
  rw [e9] at c9
  obtain ⟨CD, hOD, _, _, eD⟩ := S2.out.st.d
  have cD := hOD.cell 12 (by decide)
  rw [eD] at cD
  obtain ⟨CP, hOP, hP1⟩ := S2.out.st.past
  have hxn : x.toNat < L.nO := by omega
  obtain ⟨y0, y1, y2⟩ := hP1 x.toNat hxn
  have p0 := hOP.cell (x.toNat * 3) (by omega)
  have p1 := hOP.cell (x.toNat * 3 + 1) (by omega)
  have p2 := hOP.cell (x.toNat * 3 + 2) (by omega)
  rw [y0] at p0
  rw [y1] at p1
  rw [y2] at p2
  clear y0 y1 y2
  have hS3 := hO3.lt
  have hD3 := hOD.lt
  have hP3 := hOP.lt
  have nS : (Value.slice aB T.length cB).ownBlock ≠ some L.bS := Ne.symm (own_ge hB3 (Nat.lt_succ_self _))
  have nD : (Value.slice aB T.length cB).ownBlock ≠ some L.bD := Ne.symm (own_ge hB3 (by have := od.out.2.2.2.2.2.2.2; omega))
  have nP : (Value.slice aB T.length cB).ownBlock ≠ some L.gP := Ne.symm (own_ge hB3 (by have := od.out.2.2.2.2.2.2; omega))
  have HO3 : Hid (OwnBlk w3 L.bS 97 19 C3) := hO3
  have oB3 : Hid (w3.ownsRow (L.bS + 1) 119 3 (.slice aB T.length cB) T.length xs3) := hB3
  obtain ⟨i0, hi, hz0, hz1, hz2⟩ := info_parts info119
  clear hO3 e1 e9 hB3 hOD eD hOP hP1
  go_region_law
    ((refine step_append_lies _ (by rfl) _ _ _ (by rfl) (L.bS + 1) 119 i0 _ 3 24 Try.underlying87 hi hz0 hz1 hz2 rfl (by decide) (.slice aB T.length cB) T.length xs3 (by rfl) ((oB3.out.alloc _).drew)
        ⟨w3.heap.size, 0, none⟩ 1 1 [.pointer none, .pointer none, .int .i64 0] (by rfl) (by rfl) (World.news_of_block (cs := #[.pointer none, .pointer none, .int .i64 0]) (t := 119) (fr := (0, 0)) (heap_alloc_new w3 _)) (by simp [Value.oneCell'])
        (by decide) (by unfold maxLen; omega) (by omega) (by simp; omega) (w3.heap.size + 1) (by simp) ?_; intro gg cap5 w5 hown5 hgrow hat5 hlt5; have hb5 := HO3.out.same (w' := w5) (by rw [hgrow.block L.bS (by simp; omega) (Ne.symm nS)]; exact heap_alloc_old w3 _ hS3); have f95 := hb5.free 9; have c95 := hb5.cell 9 (by decide)))
  all_goals
    have hg5 : (w3.alloc (.cells #[.pointer none, .pointer none, .int .i64 0] 119)).grownBy w5 (Value.slice aB T.length cB).ownBlock := ⟨hgrow.os, hgrow.tape, hgrow.output, hgrow.size, hgrow.block⟩
    have hle3 : L.bM ≤ w3.heap.size := by have := od.out.2.2.2.2.2.2.2.2; omega
    have S5 : Hid (Sess L (w5.setCell ⟨L.bS, 9, none⟩ (.slice (some ⟨gg, 0, none⟩) (T.length + 1) cap5)) S (T ++ [x]) (T ++ [x]) (T.length + 1) T.length T.length uT (.slice (some ⟨gg, 0, none⟩) (T.length + 1) cap5) vG vC) := S2.out.pushB hg5 hown5
    have B5 : Hid (Below L.bM w (w5.setCell ⟨L.bS, 9, none⟩ (.slice (some ⟨gg, 0, none⟩) (T.length + 1) cap5))) :=
      ((B2.out.alloc hle3 _).grown hg5 (by simp; omega) (fun k hk => by have h1 := (oB3.out.lt k hk).1; have h2 := od.out.2.2.2.2.2.2.2.2; omega)).setCell (Nat.le_of_lt od.out.2.2.2.2.2.2.2.2) _
    clear hgrow hg5 hown5 hat5 hlt5 hb5 f95 c95 S2 B2 c1 c9 cD p0 p1 p2 nS nD nP HO3 oB3 hi hz0 hz1 hz2 hle3 hS3 hD3 hP3
    generalize w5.setCell ⟨L.bS, 9, none⟩ (.slice (some ⟨gg, 0, none⟩) (T.length + 1) cap5) = w6 at S5 B5 ⊢
    generalize (Value.slice (some ⟨gg, 0, none⟩) (T.length + 1) cap5) = uB at S5
    obtain ⟨C6, hO6, _, _, _, _, _, _, e14, _⟩ := S5.out.bx
    have hG6 := S5.out.oG
    obtain ⟨aG, cG, hvG⟩ := own_shape hG6
    subst hvG
    have c14 := hO6.cell 14 (by decide)
    rw [e14] at c14
    have hS6 := hO6.lt
    have HO6 : Hid (OwnBlk w6 L.bS 97 19 C6) := hO6
    have oG6 : Hid (w6.ownsRow (L.bS + 1) 4 1 (.slice aG T.length cG) T.length (List.replicate T.length (.bool false))) := hG6
    obtain ⟨j0, hj, hy0, hy1, hy2⟩ := info_parts info4
    clear hO6 e14 hG6
    go_upto_region 9 with (at_builtin; refine wpList_append_lies _ rfl _ _ 26 rfl (L.bS + 1) 4 j0 (.bool false) 1 1 Try.underlying26 hj hy0 hy1 hy2 rfl (by decide) (.slice aG T.length cG) T.length (List.replicate T.length (.bool false)) rfl (oG6.out.alloc _) ⟨w6.heap.size, 0, none⟩ 1 1 [.bool false] rfl rfl (cell_one_new _ _ _) (by simp [Value.oneCell']) (by decide) (by unfold maxLen; omega) (by omega) (by simp; omega) (w6.heap.size + 1) (by simp) ?_; intro g7 cap7 w7 hown7 hgr7 hat7 hlt7; have hb7 := HO6.out.same (w' := w7) (by rw [hgr7.block L.bS (by simp; omega) (own_ge oG6.out (Nat.lt_succ_self _))]; exact heap_alloc_old w6 _ hS6); have c147 := hb7.cell 14 (by decide); have f147 := hb7.free 14)
    have hle6 : L.bM ≤ w6.heap.size := by have := od.out.2.2.2.2.2.2.2.2; omega
    have S7 : Hid (Sess L (w7.setCell ⟨L.bS, 14, none⟩ (.slice (some ⟨g7, 0, none⟩) (T.length + 1) cap7)) S (T ++ [x]) (T ++ [x]) (T.length + 1) (T.length + 1) T.length uT uB (.slice (some ⟨g7, 0, none⟩) (T.length + 1) cap7) vC) := S5.out.pushG hgr7 hown7 hat7
    have B7 : Hid (Below L.bM w (w7.setCell ⟨L.bS, 14, none⟩ (.slice (some ⟨g7, 0, none⟩) (T.length + 1) cap7))) :=
      ((B5.out.alloc hle6 _).grown hgr7 (by simp; omega) (fun k hk => by have h1 := (oG6.out.lt k hk).1; have h2 := od.out.2.2.2.2.2.2.2.2; omega)).setCell (Nat.le_of_lt od.out.2.2.2.2.2.2.2.2) _
    clear hown7 hgr7 hat7 hlt7 hb7 c147 f147 S5 B5 c14 HO6 oG6 hle6 hS6
    generalize w7.setCell ⟨L.bS, 14, none⟩ (.slice (some ⟨g7, 0, none⟩) (T.length + 1) cap7) = w8 at S7 B7 ⊢
    generalize (Value.slice (some ⟨g7, 0, none⟩) (T.length + 1) cap7) = uG at S7
    obtain ⟨C8, hO8, _, _, _, _, _, _, _, e15⟩ := S7.out.bx
    have hC8 := S7.out.oC
    obtain ⟨aC, cC, hvC⟩ := own_shape hC8
    subst hvC
    have c15 := hO8.cell 15 (by decide)
    rw [e15] at c15
    have hS8 := hO8.lt
    have HO8 : Hid (OwnBlk w8 L.bS 97 19 C8) := hO8
    have oC8 : Hid (w8.ownsRow (L.bS + 1) 4 1 (.slice aC T.length cC) T.length (List.replicate T.length (.bool false))) := hC8
    clear hO8 e15 hC8
    go_wp2_with (at_builtin; refine wpList_append_lies _ rfl _ _ 26 rfl (L.bS + 1) 4 j0 (.bool false) 1 1 Try.underlying26 hj hy0 hy1 hy2 rfl (by decide) (.slice aC T.length cC) T.length (List.replicate T.length (.bool false)) rfl (oC8.out.alloc _) ⟨w8.heap.size, 0, none⟩ 1 1 [.bool false] rfl rfl (cell_one_new _ _ _) (by simp [Value.oneCell']) (by decide) (by unfold maxLen; omega) (by omega) (by simp; omega) (w8.heap.size + 1) (by simp) ?_; intro g9 cap9 w9 hown9 hgr9 hat9 hlt9; have hb9 := HO8.out.same (w' := w9) (by rw [hgr9.block L.bS (by simp; omega) (own_ge oC8.out (Nat.lt_succ_self _))]; exact heap_alloc_old w8 _ hS8); have c159 := hb9.cell 15 (by decide); have f159 := hb9.free 15)
    have hle8 : L.bM ≤ w8.heap.size := by have := od.out.2.2.2.2.2.2.2.2; omega
    go_ret
    refine ⟨rfl, ⟨_, _, _, _, S7.out.pushC hgr9 hown9 hat9⟩, ?_⟩
    exact ((B7.out.alloc hle8 _).grown hgr9 (by simp; omega) (fun k hk => by have h1 := (oC8.out.lt k hk).1; have h2 := od.out.2.2.2.2.2.2.2.2; omega)).setCell (Nat.le_of_lt od.out.2.2.2.2.2.2.2.2) _
end Go.Proofs.Qxb6616519a
