/-
  slices.Clip (14), Key.With (12), ZZwith (7).
-/
import Derived.Test.Qxb6618937aMake
import Derived.Deep.AppendSrc
namespace Go.Proofs.Qxb6618937a
open Go.RowKit

/-- Steps behind steps. -/
def cat (K L : Steps) : Steps :=
  { n := K.n + L.n, B := fun i => if i < K.n then K.B i else L.B (i - K.n), S := fun i => if i < K.n then K.S i else L.S (i - K.n), N := fun i => if i < K.n then K.N i else L.N (i - K.n) }

theorem kv_cat_l (K L : Steps) (i : Nat) (h : i < K.n) : kv (cat K L) i = kv K i := by simp [kv, cat, h]
theorem kv_cat_r (K L : Steps) (i : Nat) (h : ¬ i < K.n) : kv (cat K L) i = kv L (i - K.n) := by simp [kv, cat, h]
theorem kv_one (K : Steps) (i : Nat) : (kv K i).oneCell' = true := by unfold kv; split <;> rfl

/-- The key's cells as a list. -/
def kvs (K : Steps) : List Value := (List.range K.n).map (kv K)
theorem kvs_len (K : Steps) : (kvs K).length = K.n := by simp [kvs]
theorem kvs_get (K : Steps) (i : Nat) (h : i < K.n) : (kvs K)[i]? = some (kv K i) := by simp [kvs, h]
theorem kvs_cells {w : World} {g : Nat} {K : Steps} (h : CellsK w g K) : ∀ j u, (kvs K)[j]? = some u → w.cell? ((⟨g, 0, none⟩ : Addr).add j) = some u := by
  intro j u hu
  have hj : j < K.n := by
    have := (List.getElem?_eq_some_iff.1 hu).1
    rwa [kvs_len] at this
  rw [kvs_get K j hj] at hu
  cases hu
  have hadd : (⟨g, 0, none⟩ : Addr).add j = ⟨g, j, none⟩ := by unfold Addr.add; split <;> simp_all
  rw [hadd]
  exact h.2 j hj
theorem kvs_one (K : Steps) : ∀ u ∈ kvs K, u.oneCell' = true := by
  intro u hu
  obtain ⟨i, _, rfl⟩ := List.mem_map.1 hu
  exact kv_one K i

theorem clip (g n c : Nat) (w : World) (hn : n ≤ c) (_hm : n ≤ 100000) :
    Calls Try.prog 14 #[.slice (some ⟨g, 0, none⟩) n c] w fun e w' => e = .returned (.slice (some ⟨g, 0, none⟩) n n) ∧ w' = w := by
  go_enter Try.func14, Try.ntmps14
  go_wp2
  go_ret
  exact ⟨rfl, rfl⟩

theorem append_key (ty : TypeId) {w : World} {g h d : Nat} {K L : Steps} (hK : CellsK w g K) (hL : CellsK w h L) (hn : K.n + L.n ≤ 100000) :
    ∃ g' c' w', (Builtin.append_ #[26, 25] ty #[.slice (some ⟨g, 0, none⟩) K.n K.n, .slice (some ⟨h, 0, none⟩) L.n d]).run Try.prog w = .ok (.slice (some ⟨g', 0, none⟩) (K.n + L.n) c') w' ∧
      K.n + L.n ≤ c' ∧ CellsK w' g' (cat K L) ∧ Below w.heap.size w w' := by
  obtain ⟨i0, hi, hz0, hz1, hz2⟩ := info_parts info20
  have hsrc : Src Try.prog i0.size 25 (.slice (some ⟨h, 0, none⟩) L.n d) L.n (kvs L) w := by
    rw [hz1]
    exact Src.ofSlice w (size := 1) Try.underlying25 ⟨h, 0, none⟩ L.n d (kvs L) (by rw [kvs_len, Nat.mul_one]) (kvs_cells hL) (kvs_one L)
  by_cases h0 : L.n = 0
  · have hnil : kvs L = [] := by
      apply List.eq_nil_of_length_eq_zero
      rw [kvs_len]; exact h0
    have hr := run_append_room_src (P := Try.prog) w 26 25 ty 20 i0 Try.underlying26 hi g 0 K.n K.n _ L.n (kvs L) hsrc (by omega) (by rw [hnil]; intro j hj; cases hj) (by rw [hnil]; intro j hj; cases hj)
    refine ⟨g, K.n, w, ?_, by omega, ⟨hK.1, fun i hi => ?_⟩, Below.refl _ _⟩
    · rw [hr, hnil]
      rfl
    · have hi' : i < K.n := by
        have : i < K.n + L.n := hi
        omega
      rw [kv_cat_l K L i hi']
      exact hK.2 i hi'
  · have hold : (Builtin.firstCells i0.size K.n (.slice (some ⟨g, 0, none⟩) K.n K.n)).run Try.prog w.drew = .ok (kvs K).toArray w.drew :=
      run_firstCells_some w.drew i0.size K.n ⟨g, 0, none⟩ K.n K.n (kvs K) (by rw [kvs_len, hz1, Nat.mul_one]) (by simpa using kvs_cells hK)
    have hr := run_append_grow_src (P := Try.prog) w 26 25 ty 20 i0 _ Try.underlying26 hi hz0 (some ⟨g, 0, none⟩) K.n K.n (kvs K) hold _ L.n (kvs L) hsrc (by omega) (by omega)
      (growslice_fits (by omega) (by rw [hz2]; omega))
    refine ⟨w.heap.size, _, _, hr, grownCap_ge _ _ _ _, ⟨?_, fun i hi => ?_⟩, ?_⟩
    · rw [World.size_alloc]
      exact Nat.lt_succ_self _
    · have hi' : i < K.n + L.n := hi
      have hh := heap_alloc_new w.drew (.cells ((kvs K ++ kvs L).toArray ++ Builtin.zeroCells (Value.cells .nilIface) (grownCap w (K.n + L.n) K.n 20 - (K.n + L.n))) 20)
      rw [show w.heap.size = w.drew.heap.size from rfl, cell_of_row _ _ i _ 20 (0, 0) hh]
      have hlen : (kvs K ++ kvs L).length = K.n + L.n := by rw [List.length_append, kvs_len, kvs_len]
      rw [Array.getElem?_append_left (by simpa [hlen] using hi'), List.getElem?_toArray]
      by_cases hik : i < K.n
      · rw [List.getElem?_append_left (by rw [kvs_len]; exact hik), kvs_get K i hik, kv_cat_l K L i hik]
      · rw [List.getElem?_append_right (by rw [kvs_len]; omega), kvs_len, kvs_get L (i - K.n) (by omega), kv_cat_r K L i hik]
    · exact (Below.refl _ _).drew.alloc (Nat.le_refl _) _

/-- An append whose run is known. -/
theorem wpList_append_run {P : Program} (w : World) {ops : Array Oper} {rest : List Oper} {o : Oper} {a : Act} {Q : Exit → Act → World → Prop}
    (hg : o.guard = none) (s x : Operand) (t tx : TypeId) (hop : o.op = Op.call { callee := Callee.builtin Builtin.append, args := #[s, x], argTypes := #[t, tx] })
    (vs vx v' : Value) (w' : World) (hs : a.eval s = vs) (hx : a.eval x = vx) (hrun : (Builtin.append_ #[t, tx] o.type #[vs, vx]).run P w = .ok v' w')
    (hK : wpList P ops Q rest (a.put o.dst v') w') : wpList P ops Q (o :: rest) a w := by
  refine wpList_plain hg fun K hK' => ?_
  unfold Oper.wp
  simp [execOp, hop, resolve, invoke, builtin, hs, hx, hrun, Result.andThen]
  exact hK' _ _ hK

/-- Key.With. -/
theorem with_any {w : World} {g h c d : Nat} {K L : Steps} (hK : CellsK w g K) (hL : CellsK w h L) (hn : K.n + L.n ≤ 100000) (hc : K.n ≤ c) :
    Calls Try.prog 12 #[.slice (some ⟨g, 0, none⟩) K.n c, .slice (some ⟨h, 0, none⟩) L.n d] w fun e w' =>
      ∃ g' c', e = .returned (.slice (some ⟨g', 0, none⟩) (cat K L).n c') ∧ (cat K L).n ≤ c' ∧ CellsK w' g' (cat K L) ∧ Below w.heap.size w w' := by
  obtain ⟨g', c', w', hrun, q1, q2, q3⟩ := append_key 26 (d := d) hK hL hn
  have Q1 : Hid (K.n + L.n ≤ c') := q1
  have Q2 : Hid (CellsK w' g' (cat K L)) := q2
  have Q3 : Hid (Below w.heap.size w w') := q3
  have HR : Hid _ := hrun
  clear hK hL q1 q2 q3 hrun
  go_enter Try.func12, Try.ntmps12
  go_wp2_with fail
  refine (clip g K.n c w hc (by omega)).mono ?_
  rintro e w1 ⟨rfl, rfl⟩
  go_wp2_with (at_builtin; refine wpList_append_run _ rfl _ _ 26 25 rfl _ _ _ _ rfl rfl HR.out ?_)
  go_ret
  exact ⟨g', c', rfl, Q1.out, Q2.out, Q3.out⟩

/-- ZZwith. -/
theorem zzwith_any {w : World} {g h c d : Nat} {K L : Steps} (hK : CellsK w g K) (hL : CellsK w h L) (hn : K.n + L.n ≤ 100000) (hc : K.n ≤ c) :
    Calls Try.prog 7 #[.slice (some ⟨g, 0, none⟩) K.n c, .slice (some ⟨h, 0, none⟩) L.n d] w fun e w' =>
      ∃ g' c', e = .returned (.slice (some ⟨g', 0, none⟩) (cat K L).n c') ∧ (cat K L).n ≤ c' ∧ CellsK w' g' (cat K L) ∧ Below w.heap.size w w' := by
  have HK : Hid (CellsK w g K) := hK
  have HL : Hid (CellsK w h L) := hL
  clear hK hL
  go_enter Try.func7, Try.ntmps7
  go_wp2_with fail
  refine (with_any HK.out HL.out hn hc).mono ?_
  rintro e w1 ⟨g', c', rfl, q1, q2, q3⟩
  have Q1 : Hid ((cat K L).n ≤ c') := q1
  have Q2 : Hid (CellsK w1 g' (cat K L)) := q2
  have Q3 : Hid (Below w.heap.size w w1) := q3
  clear q1 q2 q3
  go_wp2
  go_ret
  exact ⟨g', c', rfl, Q1.out, Q2.out, Q3.out⟩
end Go.Proofs.Qxb6618937a
