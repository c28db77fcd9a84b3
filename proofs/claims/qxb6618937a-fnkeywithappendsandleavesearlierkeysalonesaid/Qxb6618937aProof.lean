/-
  THE ROW: each argument (a slice of steps) opened, the law's walk, the arguments handed back as they were.
-/
import Derived.Test.Qxb6618937aLaw
import Derived.ProofKit
import Derived.OpenShut
import Derived.ChangeOld
import Derived.SizedLaws
import Derived.Deep.Strs
namespace Go.Proofs.Qxb6618937a
open Go.ChangeShapes Go.WideShapes Go.ChangeAt Go.RowKit Go.Deep

theorem own : ownKnob Try.prog.godebug = none := by kernel_rfl
theorem laidOut : laidOutB Try.prog = true := by kernel_rfl
theorem cells34 : Try.prog.cellsOf 34 = 3 := by kernel_rfl
theorem cells4 : Try.prog.cellsOf 4 = 1 := by kernel_rfl
theorem cells9 : Try.prog.cellsOf 9 = 1 := by kernel_rfl
theorem cells3 : Try.prog.cellsOf 3 = 1 := by kernel_rfl
theorem bytes34 : Try.prog.bytesOf 34 = 32 := by kernel_rfl

section
variable {H : Type} {enc : TypeId × Value → H}

theorem each3 {W : World} {a : Addr} {i n : Nat} {cs : List Value} {D : DataW H} {pl : List MemPlace} (h1 : W.cells? 0 (a.add (i * 3)) 3 = some cs) (h2 : DataW.trod enc Try.prog W 0 (fun _ => true) true n 34 cs = some (D, pl)) :
    ∃ (β : Bool) (s : ByteArray) (z : Int), W.cell? (a.add (i * 3)) = some (.bool β) ∧ W.cell? (a.add (i * 3 + 1)) = some (.string s) ∧ W.cell? (a.add (i * 3 + 2)) = some (.int .i64 z) ∧ D = .agg [.lit (.bool β), .lit (.string s.data.toList), .lit (.int .i64 z)] := by
  obtain ⟨_, hlen, hcell⟩ := World.cells?_some h1
  obtain ⟨y0, y1, y2, m, hx, _, g0, g1, g2⟩ := trod_struct3 Try.underlying34 h2
  simp only [Prod.mk.injEq] at hx
  simp only [cells4, cells9, cells3] at g0 g1 g2
  obtain ⟨β, c0, e0⟩ := DataW.trod_bool Try.underlying4 g0
  obtain ⟨s, c1, e1, _⟩ := DataW.trod_string Try.underlying9 g1
  obtain ⟨z, c2, e2, _⟩ := DataW.trod_int Try.underlying3 g2
  have k0 := hcell 0 (by omega)
  have k1 := hcell 1 (by omega)
  have k2 := hcell 2 (by omega)
  rw [add_add] at k0 k1 k2
  have q0 : cs[0]? = some (.bool β) := by
    have := congrArg (·[0]?) c0
    simpa [List.getElem?_take, List.getElem?_drop] using this
  have q1 : cs[1]? = some (.string s) := by
    have := congrArg (·[0]?) c1
    simpa [List.getElem?_take, List.getElem?_drop] using this
  have q2 : cs[2]? = some (.int .i64 z) := by
    have := congrArg (·[0]?) c2
    simpa [List.getElem?_take, List.getElem?_drop] using this
  refine ⟨β, s, z, k0.trans q0, k1.trans q1, k2.trans q2, ?_⟩
  rw [hx.1, e0, e1, e2]

theorem weightsAll_mem {P : Program} {e : TypeId} {d : DataW H} {m : Nat} (hm : m ∈ d.weights P e) : ∀ {l : List (DataW H)}, d ∈ l → m ∈ DataW.weightsAll P e l := by
  intro l
  induction l with
  | nil => intro h; cases h
  | cons x r ih =>
    intro h
    rw [DataW.weightsAll, List.mem_append]
    rcases List.mem_cons.1 h with rfl | h'
    · exact .inl hm
    · exact .inr (ih h')

/-- WHAT THE WALK IS TOLD OF AN ARGUMENT. -/
theorem view3 {W : World} {a0 : Option Addr} {len cap fuel : Nat} {d : DataW H} {p : List MemPlace} (h : DataW.trod enc Try.prog W 0 (fun _ => true) true fuel 22 [.slice a0 len cap] = some (d, p))
    (hw : ∀ m ∈ d.weights Try.prog 22, m ≤ reachBytes) : ∃ K : Steps, K.n = len ∧ Cells3 W a0 K ∧ len ≤ 140737488355328 := by
  have hr := reachBytes_lt
  rcases open_slice Try.underlying22 h with ⟨hcs, _⟩ | ⟨a, l, c, m, n, D, Pl, hcs, _, hl, hm, hmm, hx, hel⟩
  · simp at hcs
    obtain ⟨rfl, rfl, rfl⟩ := hcs
    exact ⟨nil3, rfl, fun i hi => absurd hi (Nat.not_lt_zero i), by omega⟩
  · simp at hcs
    obtain ⟨rfl, rfl, rfl⟩ := hcs
    simp only [if_pos] at hmm
    subst hmm
    simp only [Prod.mk.injEq] at hx
    obtain ⟨hd, _⟩ := hx
    subst hd
    rw [cells34] at hel
    have hlen : len * 32 ≤ reachBytes := by
      have := hw ((len + (m - len)) * 32) (by simp [DataW.weights, Try.underlying22, bytes34])
      omega
    have each : ∀ i, i < len → ∃ q : Bool × ByteArray × Int, W.cell? (a.add (i * 3)) = some (.bool q.1) ∧ W.cell? (a.add (i * 3 + 1)) = some (.string q.2.1) ∧ W.cell? (a.add (i * 3 + 2)) = some (.int .i64 q.2.2) ∧ q.2.1.size ≤ 140737488355328 := by
      intro i hi
      obtain ⟨cs', h1, h2⟩ := hel i (by omega)
      obtain ⟨β, s, z, e0, e1, e2, hD⟩ := each3 h1 h2
      refine ⟨(β, s, z), e0, e1, e2, ?_⟩
      have hs := hw s.data.toList.length (by
        have h1 : s.data.toList.length ∈ (D i).weights Try.prog 34 := by rw [hD]; simp [DataW.weights, DataW.weightsEach, Try.underlying34]
        have h2 := weightsAll_mem h1 (l := (List.range len).map D) (List.mem_map.2 ⟨i, List.mem_range.2 hi, rfl⟩)
        simp only [DataW.weights, Try.underlying22, List.mem_cons, List.mem_append]
        exact .inr (.inl h2))
      have e : s.data.toList.length = s.size := by rw [Array.length_toList]; rfl
      show s.size ≤ _
      omega
    obtain ⟨f, hf⟩ := choose_lt each
    refine ⟨{ n := len, B := fun i => (f i).1, S := fun i => (f i).2.1, N := fun i => (f i).2.2 }, rfl, fun i hi => ?_, by omega⟩
    obtain ⟨e0, e1, e2, hz⟩ := hf i hi
    obtain ⟨b, off, spot⟩ := a
    have hspot : spot = none := by simpa [Addr.add] using World.cell?_spot (hf 0 (Nat.lt_of_le_of_lt (Nat.zero_le i) hi)).1
    subst hspot
    rw [add_plain] at e0 e1 e2
    exact ⟨b, off, rfl, World.block_lt_of_cell? _ _ e0, e0, e1, e2, hz⟩
end

set_option maxRecDepth 100000 in
theorem lifted (os : Os) (started : os.Started) (H : Type) (enc : TypeId × Value → H) :
    ReturnsInHanded {} Try.checked os 3 .any (Rows.fnKeyWithAppendsAndLeavesEarlierKeysAloneSpec.pre6 enc Try.prog Try.f3 Rows.fnKeyWithAppendsAndLeavesEarlierKeysAloneRow.domain false) (Rows.fnKeyWithAppendsAndLeavesEarlierKeysAloneSpec.post enc Try.prog Try.f3 false true false false) := by
  refine returnsInHanded_of_change_sized (C := Try.checked) own started (by kernel_rfl) Try.func3
    (ChangeSpec.witness6 (enc := enc) (C := Try.checked) false ⟨#[], #[.slice none 0 0, .slice none 0 0, .slice none 0 0, .slice none 0 0], []⟩ 8 (by kernel_rfl) (by kernel_rfl) (by kernel_rfl) (by kernel_rfl)) ?_
  intro W base args ds gs before hval0 hW _ hsz0 _
  have hval : ∀ (j : Nat) t v, Try.f3.params[j]? = some t → args[j]? = some v → Value.okWide Try.prog W .any base t v := hval0
  have hsz : (DataW.weightsEach Try.prog (Try.f3.params.toList ++ Rows.fnKeyWithAppendsAndLeavesEarlierKeysAloneSpec.plain.varTypes Try.prog) (ds ++ gs)).all (· ≤ reachBytes) = true := hsz0
  have hW' := hW
  obtain ⟨p, q, hA0, hV, rfl, hfz, hnd⟩ := hW
  have hA : DataW.TrodAll enc Try.prog W 0 (fun _ => true) true Try.f3.params.toList args.toList ds p := hA0
  rw [Try.params3] at hA hval hsz
  obtain ⟨v0, vs0, d0, ds0, p0, q0, hargs, rfl, rfl, h0, r0⟩ := trodAll_cons hA
  obtain ⟨v1, vs1, d1, ds1, p1, q1, rfl, rfl, rfl, h1, r1⟩ := trodAll_cons r0
  obtain ⟨v2, vs2, d2, ds2, p2, q2, rfl, rfl, rfl, h2, r2⟩ := trodAll_cons r1
  obtain ⟨v3, vs3, d3, ds3, p3, q3, rfl, rfl, rfl, h3, r3⟩ := trodAll_cons r2
  obtain ⟨rfl, rfl, rfl⟩ := trodAll_nil r3
  obtain rfl : args = #[v0, v1, v2, v3] := by cases args; simp_all
  obtain ⟨rfl, rfl⟩ := trodVars_none hV
  have wt : ∀ (j : Nat) (d : DataW H), ([d0, d1, d2, d3] : List (DataW H))[j]? = some d → ([22, 22, 22, 22] : List TypeId)[j]? = some 22 → ∀ m ∈ d.weights Try.prog 22, m ≤ reachBytes := by
    intro j d hd ht m hm
    have hmem := DataW.weights_mem_each (P := Try.prog) (ts := [22, 22, 22, 22] ++ Rows.fnKeyWithAppendsAndLeavesEarlierKeysAloneSpec.plain.varTypes Try.prog) (ds := [d0, d1, d2, d3] ++ []) (j := j) (t := 22) (d := d)
      (by rw [List.getElem?_append_left (List.getElem?_eq_some_iff.1 ht).1]; exact ht) (by rw [List.append_nil]; exact hd) m hm
    have := List.all_eq_true.1 hsz m hmem
    simpa using this
  obtain ⟨a0, len0, cap0, rfl⟩ := okWide_slice Try.underlying22 (hval 0 22 v0 rfl rfl)
  have k0 := h0
  have lt0 : ∀ x ∈ p0, x.block < W.heap.size := by obtain ⟨m, hm⟩ := k0; exact DataW.trod_lt m _ _ _ hm
  obtain ⟨K0, rfl, w0, z0⟩ : ∃ K : Steps, K.n = len0 ∧ Cells3 W a0 K ∧ len0 ≤ 140737488355328 := by obtain ⟨fuel, hf⟩ := h0; exact view3 hf (wt 0 d0 rfl rfl)
  obtain ⟨a1, len1, cap1, rfl⟩ := okWide_slice Try.underlying22 (hval 1 22 v1 rfl rfl)
  have k1 := h1
  have lt1 : ∀ x ∈ p1, x.block < W.heap.size := by obtain ⟨m, hm⟩ := k1; exact DataW.trod_lt m _ _ _ hm
  obtain ⟨K1, rfl, w1, z1⟩ : ∃ K : Steps, K.n = len1 ∧ Cells3 W a1 K ∧ len1 ≤ 140737488355328 := by obtain ⟨fuel, hf⟩ := h1; exact view3 hf (wt 1 d1 rfl rfl)
  obtain ⟨a2, len2, cap2, rfl⟩ := okWide_slice Try.underlying22 (hval 2 22 v2 rfl rfl)
  have k2 := h2
  have lt2 : ∀ x ∈ p2, x.block < W.heap.size := by obtain ⟨m, hm⟩ := k2; exact DataW.trod_lt m _ _ _ hm
  obtain ⟨K2, rfl, w2, z2⟩ : ∃ K : Steps, K.n = len2 ∧ Cells3 W a2 K ∧ len2 ≤ 140737488355328 := by obtain ⟨fuel, hf⟩ := h2; exact view3 hf (wt 2 d2 rfl rfl)
  obtain ⟨a3, len3, cap3, rfl⟩ := okWide_slice Try.underlying22 (hval 3 22 v3 rfl rfl)
  have k3 := h3
  have lt3 : ∀ x ∈ p3, x.block < W.heap.size := by obtain ⟨m, hm⟩ := k3; exact DataW.trod_lt m _ _ _ hm
  obtain ⟨K3, rfl, w3, z3⟩ : ∃ K : Steps, K.n = len3 ∧ Cells3 W a3 K ∧ len3 ≤ 140737488355328 := by obtain ⟨fuel, hf⟩ := h3; exact view3 hf (wt 3 d3 rfl rfl)
  clear hA0 hval0 hsz0 hsz wt
  refine (law_any a0 a1 a2 a3 cap0 cap1 cap2 cap3 K0 K1 K2 K3 W w0 w1 w2 w3 z0 z1 z2 z3).mono fun e W' ⟨he, bel⟩ => ?_
  subst he
  exact ⟨_, rfl, _, _, _, [], _, [], hW', trodAll_mk1 (shut_bool Try.underlying4 _), (trodAll_cons_mk (Below.trod laidOut (by kernel_rfl) (of_decide_eq_true (by kernel_rfl)) k0 bel lt0) (trodAll_cons_mk (Below.trod laidOut (by kernel_rfl) (of_decide_eq_true (by kernel_rfl)) k1 bel lt1) (trodAll_cons_mk (Below.trod laidOut (by kernel_rfl) (of_decide_eq_true (by kernel_rfl)) k2 bel lt2) (trodAll_cons_mk (Below.trod laidOut (by kernel_rfl) (of_decide_eq_true (by kernel_rfl)) k3 bel lt3) trodAll_mk0)))), rfl, bel.frame _, fun h => by cases h⟩

/-- THE STATEMENT. -/
theorem proved : Rows.FnKeyWithAppendsAndLeavesEarlierKeysAloneSaid :=
  OpenClaim.holds_of_wide 3 Try.f3 rfl rfl rfl rfl rfl rfl rfl ⟨rfl, rfl, rfl, rfl, rfl⟩ rfl rfl rfl rfl rfl (by kernel_rfl) Try.func3 (by kernel_rfl)
    (of_decide_eq_true (by kernel_rfl)) (by unfold Func.isWrapper; first | (rw [if_pos (by decide +kernel)]; kernel_rfl) | (rw [if_neg (by decide +kernel)]; exact ⟨rfl, rfl⟩))
    (fun os started H enc _ => lifted os started H enc)
end Go.Proofs.Qxb6618937a
