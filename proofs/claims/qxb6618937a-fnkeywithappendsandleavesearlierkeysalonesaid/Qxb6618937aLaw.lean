/-
  The law (3): walked over its callees' contracts.
-/
import Derived.Test.Qxb6618937aMatch
namespace Go.Proofs.Qxb6618937a
open Go.RowKit

theorem agree_l (K L : Steps) (i : Nat) (h : i < K.n) : Agree (rd (cat K L)) i K i := by
  unfold Agree
  by_cases hb : K.B i = true
  · rw [if_pos hb]; simp [rd, cat, h, hb]
  · rw [if_neg hb]; simp [rd, cat, h, hb]

theorem agree_r (K L : Steps) (i : Nat) : Agree (rd (cat K L)) (K.n + i) L i := by
  have hx : ¬ K.n + i < K.n := by omega
  unfold Agree
  by_cases hb : L.B i = true
  · rw [if_pos hb]; simp [rd, cat, hb, hx]
  · rw [if_neg hb]; simp [rd, cat, hb, hx]

theorem agree_self (K : Steps) (i : Nat) : Agree (rd K) i K i := by
  unfold Agree
  by_cases hb : K.B i = true
  · rw [if_pos hb]; simp [rd, hb]
  · rw [if_neg hb]; simp [rd, hb]

theorem agree_ll (K L M : Steps) (i : Nat) (h : i < K.n) : Agree (rd (cat (cat K L) M)) i K i := by
  have h2 : i < (cat K L).n := by show i < K.n + L.n; omega
  have h3 : i < K.n + L.n := h2
  unfold Agree
  by_cases hb : K.B i = true
  · rw [if_pos hb]; simp [rd, cat, h, h3, hb]
  · rw [if_neg hb]; simp [rd, cat, h, h3, hb]

theorem agree_lr (K L M : Steps) (i : Nat) (h : i < L.n) : Agree (rd (cat (cat K L) M)) (K.n + i) L i := by
  have hx : ¬ K.n + i < K.n := by omega
  unfold Agree
  by_cases hb : L.B i = true
  · rw [if_pos hb]; simp [rd, cat, h, hb, hx]
  · rw [if_neg hb]; simp [rd, cat, h, hb, hx]

/-- No steps. -/
def nil3 : Steps := { n := 0, B := fun _ => false, S := fun _ => ⟨#[]⟩, N := fun _ => 0 }
theorem nil3_cells (w : World) : Cells3 w none nil3 := fun i hi => absurd hi (Nat.not_lt_zero i)

theorem cat_S (K L : Steps) (hK : ∀ i, i < K.n → (K.S i).size ≤ 140737488355328) (hL : ∀ i, i < L.n → (L.S i).size ≤ 140737488355328) : ∀ i, i < (cat K L).n → ((cat K L).S i).size ≤ 140737488355328 := by
  intro i hi
  have hi' : i < K.n + L.n := hi
  show (if i < K.n then K.S i else L.S (i - K.n)).size ≤ _
  split
  · exact hK i (by assumption)
  · exact hL _ (by omega)

theorem Cells3.sizes {w : World} {a : Option Addr} {K : Steps} (h : Cells3 w a K) : ∀ i, i < K.n → (K.S i).size ≤ 140737488355328 := fun i hi => by
  obtain ⟨_, _, _, _, _, _, _, hz⟩ := h i hi
  exact hz

set_option maxHeartbeats 1000000 in
theorem law_wide (a1 a2 a3 a4 : Option Addr) (c1 c2 c3 c4 : Nat) (K1 K2 K3 K4 : Steps) (w : World) (h1 : Cells3 w a1 K1) (h2 : Cells3 w a2 K2) (h3 : Cells3 w a3 K3) (h4 : Cells3 w a4 K4)
    (z1 : K1.n ≤ 140737488355328) (z2 : K2.n ≤ 140737488355328) (z3 : K3.n ≤ 140737488355328) (z4 : K4.n ≤ 140737488355328)
    (hw : ¬ (K1.n ≤ 4096 ∧ K2.n ≤ 4096 ∧ K3.n ≤ 4096 ∧ K4.n ≤ 4096)) :
    Calls Try.prog 3 #[.slice a1 K1.n c1, .slice a2 K2.n c2, .slice a3 K3.n c3, .slice a4 K4.n c4] w fun e w' => e = .returned (.bool true) ∧ Below w.heap.size w w' := by
  have H1 : Hid (Cells3 w a1 K1) := h1
  have H2 : Hid (Cells3 w a2 K2) := h2
  have H3 : Hid (Cells3 w a3 K3) := h3
  have H4 : Hid (Cells3 w a4 K4) := h4
  have HW : Hid (¬ (K1.n ≤ 4096 ∧ K2.n ≤ 4096 ∧ K3.n ≤ 4096 ∧ K4.n ≤ 4096)) := hw
  clear h1 h2 h3 h4 hw
  go_enter Try.func3, Try.ntmps3
  go_wp2_with fail
  refine (bytes4 a1 a2 a3 a4 c1 c2 c3 c4 K1 K2 K3 K4 w H1.out H2.out H3.out H4.out z1 z2 z3 z4).mono ?_
  rintro e w1 ⟨⟨β, rfl⟩, rfl⟩
  cases β
  · go_wp2
    go_ret
    exact ⟨rfl, Below.refl _ _⟩
  · go_wp2_with fail
    all_goals first
      | (go_ret; exact ⟨rfl, Below.refl _ _⟩)
      | (exfalso; have := HW.out; omega)

set_option maxHeartbeats 1000000 in
theorem law_small (a1 a2 a3 a4 : Option Addr) (c1 c2 c3 c4 : Nat) (K1 K2 K3 K4 : Steps) (w : World) (h1 : Cells3 w a1 K1) (h2 : Cells3 w a2 K2) (h3 : Cells3 w a3 K3) (h4 : Cells3 w a4 K4)
    (z1 : K1.n ≤ 4096) (z2 : K2.n ≤ 4096) (z3 : K3.n ≤ 4096) (z4 : K4.n ≤ 4096) :
    Calls Try.prog 3 #[.slice a1 K1.n c1, .slice a2 K2.n c2, .slice a3 K3.n c3, .slice a4 K4.n c4] w fun e w' => e = .returned (.bool true) ∧ Below w.heap.size w w' := by
  have H1 : Hid (Cells3 w a1 K1) := h1
  have H2 : Hid (Cells3 w a2 K2) := h2
  have H3 : Hid (Cells3 w a3 K3) := h3
  have H4 : Hid (Cells3 w a4 K4) := h4
  clear h1 h2 h3 h4
  go_enter Try.func3, Try.ntmps3
  go_wp2_with fail
  refine (bytes4 a1 a2 a3 a4 c1 c2 c3 c4 K1 K2 K3 K4 w H1.out H2.out H3.out H4.out (by omega) (by omega) (by omega) (by omega)).mono ?_
  rintro e w1 ⟨⟨β, rfl⟩, rfl⟩
  cases β
  · go_wp2
    go_ret
    exact ⟨rfl, Below.refl _ _⟩
  go_wp2_with fail
  refine (bytes5 0 a1 c1 K1 _ (by omega) (by omega) (by omega) H1.out).mono ?_
  rintro e w1 ⟨⟨m1, hm1, rfl⟩, rfl⟩
  by_cases t1 : 1048576 < m1
  · go_wp2
    go_ret
    exact ⟨rfl, Below.refl _ _⟩
  go_wp2_with fail
  refine (bytes5 m1 a2 c2 K2 _ (by omega) (by omega) (by omega) H2.out).mono ?_
  rintro e w1 ⟨⟨m2, hm2, rfl⟩, rfl⟩
  by_cases t2 : 1048576 < m2
  · go_wp2
    go_ret
    exact ⟨rfl, Below.refl _ _⟩
  go_wp2_with fail
  refine (bytes5 m2 a3 c3 K3 _ (by omega) (by omega) (by omega) H3.out).mono ?_
  rintro e w1 ⟨⟨m3, hm3, rfl⟩, rfl⟩
  by_cases t3 : 1048576 < m3
  · go_wp2
    go_ret
    exact ⟨rfl, Below.refl _ _⟩
  go_wp2_with fail
  refine (bytes5 m3 a4 c4 K4 _ (by omega) (by omega) (by omega) H4.out).mono ?_
  rintro e w1 ⟨⟨m4, hm4, rfl⟩, rfl⟩
  by_cases t4 : 1048576 < m4
  · go_wp2
    go_ret
    exact ⟨rfl, Below.refl _ _⟩
  clear hm1 t1 hm2 t2 hm3 t3
  have B0 : Hid (Below w1.heap.size w1 w1) := Below.refl _ _
  have S1 : Hid (∀ i, i < K1.n → (K1.S i).size ≤ 140737488355328) := Cells3.sizes H1.out
  have S2 : Hid (∀ i, i < K2.n → (K2.S i).size ≤ 140737488355328) := Cells3.sizes H2.out
  have S3 : Hid (∀ i, i < K3.n → (K3.S i).size ≤ 140737488355328) := Cells3.sizes H3.out
  have S4 : Hid (∀ i, i < K4.n → (K4.S i).size ≤ 140737488355328) := Cells3.sizes H4.out
  go_wp2_with fail
  refine (keyOf a1 c1 K1 w1 z1 H1.out).mono ?_
  rintro e w2 ⟨g1, rfl, q1, hb⟩
  have H1 : Hid (Cells3 w2 a1 (K1)) := H1.out.below hb
  have H2 : Hid (Cells3 w2 a2 (K2)) := H2.out.below hb
  have H3 : Hid (Cells3 w2 a3 (K3)) := H3.out.below hb
  have H4 : Hid (Cells3 w2 a4 (K4)) := H4.out.below hb
  have B2 : Hid (Below w1.heap.size w1 w2) := B0.out.trans (hb.mono B0.out.size)
  have G1 : Hid (CellsK w2 g1 (K1)) := q1
  clear hb B0 q1
  go_wp2_with fail
  refine (keyOf a2 c2 K2 w2 z2 H2.out).mono ?_
  rintro e w3 ⟨g2, rfl, q1, hb⟩
  have H1 : Hid (Cells3 w3 a1 (K1)) := H1.out.below hb
  have H2 : Hid (Cells3 w3 a2 (K2)) := H2.out.below hb
  have H3 : Hid (Cells3 w3 a3 (K3)) := H3.out.below hb
  have H4 : Hid (Cells3 w3 a4 (K4)) := H4.out.below hb
  have G1 : Hid (CellsK w3 g1 (K1)) := G1.out.below hb
  have B3 : Hid (Below w1.heap.size w1 w3) := B2.out.trans (hb.mono B2.out.size)
  have G2 : Hid (CellsK w3 g2 (K2)) := q1
  clear hb B2 q1
  go_wp2_with fail
  refine (keyOf a3 c3 K3 w3 z3 H3.out).mono ?_
  rintro e w4 ⟨g3, rfl, q1, hb⟩
  have H1 : Hid (Cells3 w4 a1 (K1)) := H1.out.below hb
  have H2 : Hid (Cells3 w4 a2 (K2)) := H2.out.below hb
  have H3 : Hid (Cells3 w4 a3 (K3)) := H3.out.below hb
  have H4 : Hid (Cells3 w4 a4 (K4)) := H4.out.below hb
  have G1 : Hid (CellsK w4 g1 (K1)) := G1.out.below hb
  have G2 : Hid (CellsK w4 g2 (K2)) := G2.out.below hb
  have B4 : Hid (Below w1.heap.size w1 w4) := B3.out.trans (hb.mono B3.out.size)
  have G3 : Hid (CellsK w4 g3 (K3)) := q1
  clear hb B3 q1
  go_wp2_with fail
  refine (keyOf a4 c4 K4 w4 z4 H4.out).mono ?_
  rintro e w5 ⟨g4, rfl, q1, hb⟩
  have H1 : Hid (Cells3 w5 a1 (K1)) := H1.out.below hb
  have H2 : Hid (Cells3 w5 a2 (K2)) := H2.out.below hb
  have H3 : Hid (Cells3 w5 a3 (K3)) := H3.out.below hb
  have H4 : Hid (Cells3 w5 a4 (K4)) := H4.out.below hb
  have G1 : Hid (CellsK w5 g1 (K1)) := G1.out.below hb
  have G2 : Hid (CellsK w5 g2 (K2)) := G2.out.below hb
  have G3 : Hid (CellsK w5 g3 (K3)) := G3.out.below hb
  have B5 : Hid (Below w1.heap.size w1 w5) := B4.out.trans (hb.mono B4.out.size)
  have G4 : Hid (CellsK w5 g4 (K4)) := q1
  clear hb B4 q1
  go_wp2_with fail
  refine (zzwith_any (c := K1.n) G1.out G2.out (show K1.n + K2.n ≤ 100000 by omega) (Nat.le_refl _)).mono ?_
  rintro e w6 ⟨gb, cb, rfl, q0, q1, hb⟩
  have CGB : Hid ((cat K1 K2).n ≤ cb) := q0
  clear q0
  have H1 : Hid (Cells3 w6 a1 (K1)) := H1.out.below hb
  have H2 : Hid (Cells3 w6 a2 (K2)) := H2.out.below hb
  have H3 : Hid (Cells3 w6 a3 (K3)) := H3.out.below hb
  have H4 : Hid (Cells3 w6 a4 (K4)) := H4.out.below hb
  have G1 : Hid (CellsK w6 g1 (K1)) := G1.out.below hb
  have G2 : Hid (CellsK w6 g2 (K2)) := G2.out.below hb
  have G3 : Hid (CellsK w6 g3 (K3)) := G3.out.below hb
  have G4 : Hid (CellsK w6 g4 (K4)) := G4.out.below hb
  have B6 : Hid (Below w1.heap.size w1 w6) := B5.out.trans (hb.mono B5.out.size)
  have GB : Hid (CellsK w6 gb (cat K1 K2)) := q1
  clear hb B5 q1
  go_wp2_with fail
  refine (zzwith_any (c := cb) GB.out G3.out (show K1.n + K2.n + K3.n ≤ 100000 by omega) CGB.out).mono ?_
  rintro e w7 ⟨gx, cx, rfl, q0, q1, hb⟩
  have CGX : Hid ((cat (cat K1 K2) K3).n ≤ cx) := q0
  clear q0
  have H1 : Hid (Cells3 w7 a1 (K1)) := H1.out.below hb
  have H2 : Hid (Cells3 w7 a2 (K2)) := H2.out.below hb
  have H3 : Hid (Cells3 w7 a3 (K3)) := H3.out.below hb
  have H4 : Hid (Cells3 w7 a4 (K4)) := H4.out.below hb
  have G1 : Hid (CellsK w7 g1 (K1)) := G1.out.below hb
  have G2 : Hid (CellsK w7 g2 (K2)) := G2.out.below hb
  have G3 : Hid (CellsK w7 g3 (K3)) := G3.out.below hb
  have G4 : Hid (CellsK w7 g4 (K4)) := G4.out.below hb
  have GB : Hid (CellsK w7 gb (cat K1 K2)) := GB.out.below hb
  have B7 : Hid (Below w1.heap.size w1 w7) := B6.out.trans (hb.mono B6.out.size)
  have GX : Hid (CellsK w7 gx (cat (cat K1 K2) K3)) := q1
  clear hb B6 q1
  go_wp2_with fail
  refine (zzwith_any (c := cb) GB.out G4.out (show K1.n + K2.n + K4.n ≤ 100000 by omega) CGB.out).mono ?_
  rintro e w8 ⟨gy, cy, rfl, q0, q1, hb⟩
  have CGY : Hid ((cat (cat K1 K2) K4).n ≤ cy) := q0
  clear q0
  have H1 : Hid (Cells3 w8 a1 (K1)) := H1.out.below hb
  have H2 : Hid (Cells3 w8 a2 (K2)) := H2.out.below hb
  have H3 : Hid (Cells3 w8 a3 (K3)) := H3.out.below hb
  have H4 : Hid (Cells3 w8 a4 (K4)) := H4.out.below hb
  have G1 : Hid (CellsK w8 g1 (K1)) := G1.out.below hb
  have G2 : Hid (CellsK w8 g2 (K2)) := G2.out.below hb
  have G3 : Hid (CellsK w8 g3 (K3)) := G3.out.below hb
  have G4 : Hid (CellsK w8 g4 (K4)) := G4.out.below hb
  have GB : Hid (CellsK w8 gb (cat K1 K2)) := GB.out.below hb
  have GX : Hid (CellsK w8 gx (cat (cat K1 K2) K3)) := GX.out.below hb
  have B8 : Hid (Below w1.heap.size w1 w8) := B7.out.trans (hb.mono B7.out.size)
  have GY : Hid (CellsK w8 gy (cat (cat K1 K2) K4)) := q1
  clear hb B7 q1
  go_wp2_with fail
  refine (steps_any _ _ K1 w8 (by omega) G1.out S1.out).mono ?_
  rintro e w9 ⟨rk, rfl, q1, hb⟩
  have H1 : Hid (Cells3 w9 a1 (K1)) := H1.out.below hb
  have H2 : Hid (Cells3 w9 a2 (K2)) := H2.out.below hb
  have H3 : Hid (Cells3 w9 a3 (K3)) := H3.out.below hb
  have H4 : Hid (Cells3 w9 a4 (K4)) := H4.out.below hb
  have G1 : Hid (CellsK w9 g1 (K1)) := G1.out.below hb
  have G2 : Hid (CellsK w9 g2 (K2)) := G2.out.below hb
  have G3 : Hid (CellsK w9 g3 (K3)) := G3.out.below hb
  have G4 : Hid (CellsK w9 g4 (K4)) := G4.out.below hb
  have GB : Hid (CellsK w9 gb (cat K1 K2)) := GB.out.below hb
  have GX : Hid (CellsK w9 gx (cat (cat K1 K2) K3)) := GX.out.below hb
  have GY : Hid (CellsK w9 gy (cat (cat K1 K2) K4)) := GY.out.below hb
  have B9 : Hid (Below w1.heap.size w1 w9) := B8.out.trans (hb.mono B8.out.size)
  have RK : Hid (Cells3 w9 (some ⟨rk, 0, none⟩) ((rd K1))) := q1
  clear hb B8 q1
  go_wp2_with fail
  refine (steps_any _ _ (cat K1 K2) w9 (show K1.n + K2.n ≤ 100000 by omega) GB.out (cat_S _ _ S1.out S2.out)).mono ?_
  rintro e w10 ⟨rb, rfl, q1, hb⟩
  have H1 : Hid (Cells3 w10 a1 (K1)) := H1.out.below hb
  have H2 : Hid (Cells3 w10 a2 (K2)) := H2.out.below hb
  have H3 : Hid (Cells3 w10 a3 (K3)) := H3.out.below hb
  have H4 : Hid (Cells3 w10 a4 (K4)) := H4.out.below hb
  have G1 : Hid (CellsK w10 g1 (K1)) := G1.out.below hb
  have G2 : Hid (CellsK w10 g2 (K2)) := G2.out.below hb
  have G3 : Hid (CellsK w10 g3 (K3)) := G3.out.below hb
  have G4 : Hid (CellsK w10 g4 (K4)) := G4.out.below hb
  have GB : Hid (CellsK w10 gb (cat K1 K2)) := GB.out.below hb
  have GX : Hid (CellsK w10 gx (cat (cat K1 K2) K3)) := GX.out.below hb
  have GY : Hid (CellsK w10 gy (cat (cat K1 K2) K4)) := GY.out.below hb
  have RK : Hid (Cells3 w10 (some ⟨rk, 0, none⟩) ((rd K1))) := RK.out.below hb
  have B10 : Hid (Below w1.heap.size w1 w10) := B9.out.trans (hb.mono B9.out.size)
  have RB : Hid (Cells3 w10 (some ⟨rb, 0, none⟩) ((rd (cat K1 K2)))) := q1
  clear hb B9 q1
  go_wp2_with fail
  refine (steps_any _ _ (cat (cat K1 K2) K3) w10 (show K1.n + K2.n + K3.n ≤ 100000 by omega) GX.out (cat_S _ _ (cat_S _ _ S1.out S2.out) S3.out)).mono ?_
  rintro e w11 ⟨rx, rfl, q1, hb⟩
  have H1 : Hid (Cells3 w11 a1 (K1)) := H1.out.below hb
  have H2 : Hid (Cells3 w11 a2 (K2)) := H2.out.below hb
  have H3 : Hid (Cells3 w11 a3 (K3)) := H3.out.below hb
  have H4 : Hid (Cells3 w11 a4 (K4)) := H4.out.below hb
  have G1 : Hid (CellsK w11 g1 (K1)) := G1.out.below hb
  have G2 : Hid (CellsK w11 g2 (K2)) := G2.out.below hb
  have G3 : Hid (CellsK w11 g3 (K3)) := G3.out.below hb
  have G4 : Hid (CellsK w11 g4 (K4)) := G4.out.below hb
  have GB : Hid (CellsK w11 gb (cat K1 K2)) := GB.out.below hb
  have GX : Hid (CellsK w11 gx (cat (cat K1 K2) K3)) := GX.out.below hb
  have GY : Hid (CellsK w11 gy (cat (cat K1 K2) K4)) := GY.out.below hb
  have RK : Hid (Cells3 w11 (some ⟨rk, 0, none⟩) ((rd K1))) := RK.out.below hb
  have RB : Hid (Cells3 w11 (some ⟨rb, 0, none⟩) ((rd (cat K1 K2)))) := RB.out.below hb
  have B11 : Hid (Below w1.heap.size w1 w11) := B10.out.trans (hb.mono B10.out.size)
  have RX : Hid (Cells3 w11 (some ⟨rx, 0, none⟩) ((rd (cat (cat K1 K2) K3)))) := q1
  clear hb B10 q1
  go_wp2_with fail
  refine (steps_any _ _ (cat (cat K1 K2) K4) w11 (show K1.n + K2.n + K4.n ≤ 100000 by omega) GY.out (cat_S _ _ (cat_S _ _ S1.out S2.out) S4.out)).mono ?_
  rintro e w12 ⟨ry, rfl, q1, hb⟩
  have H1 : Hid (Cells3 w12 a1 (K1)) := H1.out.below hb
  have H2 : Hid (Cells3 w12 a2 (K2)) := H2.out.below hb
  have H3 : Hid (Cells3 w12 a3 (K3)) := H3.out.below hb
  have H4 : Hid (Cells3 w12 a4 (K4)) := H4.out.below hb
  have G1 : Hid (CellsK w12 g1 (K1)) := G1.out.below hb
  have G2 : Hid (CellsK w12 g2 (K2)) := G2.out.below hb
  have G3 : Hid (CellsK w12 g3 (K3)) := G3.out.below hb
  have G4 : Hid (CellsK w12 g4 (K4)) := G4.out.below hb
  have GB : Hid (CellsK w12 gb (cat K1 K2)) := GB.out.below hb
  have GX : Hid (CellsK w12 gx (cat (cat K1 K2) K3)) := GX.out.below hb
  have GY : Hid (CellsK w12 gy (cat (cat K1 K2) K4)) := GY.out.below hb
  have RK : Hid (Cells3 w12 (some ⟨rk, 0, none⟩) ((rd K1))) := RK.out.below hb
  have RB : Hid (Cells3 w12 (some ⟨rb, 0, none⟩) ((rd (cat K1 K2)))) := RB.out.below hb
  have RX : Hid (Cells3 w12 (some ⟨rx, 0, none⟩) ((rd (cat (cat K1 K2) K3)))) := RX.out.below hb
  have B12 : Hid (Below w1.heap.size w1 w12) := B11.out.trans (hb.mono B11.out.size)
  have RY : Hid (Cells3 w12 (some ⟨ry, 0, none⟩) ((rd (cat (cat K1 K2) K4)))) := q1
  clear hb B11 q1
  clear G1 G2 G3 G4 GB GX GY CGB CGX CGY S1 S2 S3 S4
  go_wp2_with fail
  refine (readsAs _ a1 none none _ c1 0 0 (rd K1) K1 nil3 nil3 w12 (show K1.n ≤ 100000 by omega) RK.out H1.out (nil3_cells _) (nil3_cells _) rfl (fun i _ => agree_self K1 i) (fun i hi => absurd hi (Nat.not_lt_zero i)) (fun i hi => absurd hi (Nat.not_lt_zero i))).mono ?_
  rintro e w13 ⟨rfl, hb⟩
  have H1 : Hid (Cells3 w13 a1 (K1)) := H1.out.below hb
  have H2 : Hid (Cells3 w13 a2 (K2)) := H2.out.below hb
  have H3 : Hid (Cells3 w13 a3 (K3)) := H3.out.below hb
  have H4 : Hid (Cells3 w13 a4 (K4)) := H4.out.below hb
  have RK : Hid (Cells3 w13 (some ⟨rk, 0, none⟩) ((rd K1))) := RK.out.below hb
  have RB : Hid (Cells3 w13 (some ⟨rb, 0, none⟩) ((rd (cat K1 K2)))) := RB.out.below hb
  have RX : Hid (Cells3 w13 (some ⟨rx, 0, none⟩) ((rd (cat (cat K1 K2) K3)))) := RX.out.below hb
  have RY : Hid (Cells3 w13 (some ⟨ry, 0, none⟩) ((rd (cat (cat K1 K2) K4)))) := RY.out.below hb
  have B13 : Hid (Below w1.heap.size w1 w13) := B12.out.trans (hb.mono B12.out.size)
  clear hb B12 
  go_wp2_with fail
  refine (readsAs _ a1 a2 none _ c1 c2 0 (rd (cat K1 K2)) K1 K2 nil3 w13 (show K1.n + K2.n ≤ 100000 by omega) RB.out H1.out H2.out (nil3_cells _) rfl (agree_l K1 K2) (fun i _ => agree_r K1 K2 i) (fun i hi => absurd hi (Nat.not_lt_zero i))).mono ?_
  rintro e w14 ⟨rfl, hb⟩
  have H1 : Hid (Cells3 w14 a1 (K1)) := H1.out.below hb
  have H2 : Hid (Cells3 w14 a2 (K2)) := H2.out.below hb
  have H3 : Hid (Cells3 w14 a3 (K3)) := H3.out.below hb
  have H4 : Hid (Cells3 w14 a4 (K4)) := H4.out.below hb
  have RK : Hid (Cells3 w14 (some ⟨rk, 0, none⟩) ((rd K1))) := RK.out.below hb
  have RB : Hid (Cells3 w14 (some ⟨rb, 0, none⟩) ((rd (cat K1 K2)))) := RB.out.below hb
  have RX : Hid (Cells3 w14 (some ⟨rx, 0, none⟩) ((rd (cat (cat K1 K2) K3)))) := RX.out.below hb
  have RY : Hid (Cells3 w14 (some ⟨ry, 0, none⟩) ((rd (cat (cat K1 K2) K4)))) := RY.out.below hb
  have B14 : Hid (Below w1.heap.size w1 w14) := B13.out.trans (hb.mono B13.out.size)
  clear hb B13 
  go_wp2_with fail
  refine (readsAs _ a1 a2 a3 _ c1 c2 c3 (rd (cat (cat K1 K2) K3)) K1 K2 K3 w14 (show K1.n + K2.n + K3.n ≤ 100000 by omega) RX.out H1.out H2.out H3.out rfl (agree_ll K1 K2 K3) (agree_lr K1 K2 K3) (fun i _ => agree_r (cat K1 K2) K3 i)).mono ?_
  rintro e w15 ⟨rfl, hb⟩
  have H1 : Hid (Cells3 w15 a1 (K1)) := H1.out.below hb
  have H2 : Hid (Cells3 w15 a2 (K2)) := H2.out.below hb
  have H3 : Hid (Cells3 w15 a3 (K3)) := H3.out.below hb
  have H4 : Hid (Cells3 w15 a4 (K4)) := H4.out.below hb
  have RK : Hid (Cells3 w15 (some ⟨rk, 0, none⟩) ((rd K1))) := RK.out.below hb
  have RB : Hid (Cells3 w15 (some ⟨rb, 0, none⟩) ((rd (cat K1 K2)))) := RB.out.below hb
  have RX : Hid (Cells3 w15 (some ⟨rx, 0, none⟩) ((rd (cat (cat K1 K2) K3)))) := RX.out.below hb
  have RY : Hid (Cells3 w15 (some ⟨ry, 0, none⟩) ((rd (cat (cat K1 K2) K4)))) := RY.out.below hb
  have B15 : Hid (Below w1.heap.size w1 w15) := B14.out.trans (hb.mono B14.out.size)
  clear hb B14 
  go_wp2_with fail
  refine (readsAs _ a1 a2 a4 _ c1 c2 c4 (rd (cat (cat K1 K2) K4)) K1 K2 K4 w15 (show K1.n + K2.n + K4.n ≤ 100000 by omega) RY.out H1.out H2.out H4.out rfl (agree_ll K1 K2 K4) (agree_lr K1 K2 K4) (fun i _ => agree_r (cat K1 K2) K4 i)).mono ?_
  rintro e w16 ⟨rfl, hb⟩
  have H1 : Hid (Cells3 w16 a1 (K1)) := H1.out.below hb
  have H2 : Hid (Cells3 w16 a2 (K2)) := H2.out.below hb
  have H3 : Hid (Cells3 w16 a3 (K3)) := H3.out.below hb
  have H4 : Hid (Cells3 w16 a4 (K4)) := H4.out.below hb
  have RK : Hid (Cells3 w16 (some ⟨rk, 0, none⟩) ((rd K1))) := RK.out.below hb
  have RB : Hid (Cells3 w16 (some ⟨rb, 0, none⟩) ((rd (cat K1 K2)))) := RB.out.below hb
  have RX : Hid (Cells3 w16 (some ⟨rx, 0, none⟩) ((rd (cat (cat K1 K2) K3)))) := RX.out.below hb
  have RY : Hid (Cells3 w16 (some ⟨ry, 0, none⟩) ((rd (cat (cat K1 K2) K4)))) := RY.out.below hb
  have B16 : Hid (Below w1.heap.size w1 w16) := B15.out.trans (hb.mono B15.out.size)
  clear hb B15 
  go_wp2
  go_ret
  exact ⟨rfl, B16.out⟩

theorem law_any (a1 a2 a3 a4 : Option Addr) (c1 c2 c3 c4 : Nat) (K1 K2 K3 K4 : Steps) (w : World) (h1 : Cells3 w a1 K1) (h2 : Cells3 w a2 K2) (h3 : Cells3 w a3 K3) (h4 : Cells3 w a4 K4)
    (z1 : K1.n ≤ 140737488355328) (z2 : K2.n ≤ 140737488355328) (z3 : K3.n ≤ 140737488355328) (z4 : K4.n ≤ 140737488355328) :
    Calls Try.prog 3 #[.slice a1 K1.n c1, .slice a2 K2.n c2, .slice a3 K3.n c3, .slice a4 K4.n c4] w fun e w' => e = .returned (.bool true) ∧ Below w.heap.size w w' := by
  by_cases hw : K1.n ≤ 4096 ∧ K2.n ≤ 4096 ∧ K3.n ≤ 4096 ∧ K4.n ≤ 4096
  · exact law_small a1 a2 a3 a4 c1 c2 c3 c4 K1 K2 K3 K4 w h1 h2 h3 h4 hw.1 hw.2.1 hw.2.2.1 hw.2.2.2
  · exact law_wide a1 a2 a3 a4 c1 c2 c3 c4 K1 K2 K3 K4 w h1 h2 h3 h4 z1 z2 z3 z4 hw
end Go.Proofs.Qxb6618937a
