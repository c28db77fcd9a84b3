/-
  The readers: ZZsteps (8), zzSameStep (15), zzMatchAt (13), zzReadsAs (9).
-/
import Derived.Test.Qxb6618937aWith
namespace Go.Proofs.Qxb6618937a
open Go.RowKit

/-- What ZZsteps hands out. -/
def rd (K : Steps) : Steps := { n := K.n, B := K.B, S := fun i => if K.B i = true then ⟨#[]⟩ else K.S i, N := fun i => if K.B i = true then K.N i else 0 }

theorem as9_9 (v : Value) (w : World) : (Instr.typeAssert (.iface 9 v) 20 9 true).run Try.prog w = .ok (.tuple #[v, .bool true]) w := by kernel_rfl
theorem as3_9 (v : Value) (w : World) : (Instr.typeAssert (.iface 3 v) 20 9 true).run Try.prog w = .ok (.tuple #[.string ⟨#[]⟩, .bool false]) w := by kernel_rfl
theorem as3_3 (v : Value) (w : World) : (Instr.typeAssert (.iface 3 v) 20 3 true).run Try.prog w = .ok (.tuple #[v, .bool true]) w := by kernel_rfl
attribute [local go_sem] as9_9 as3_9 as3_3

set_option maxHeartbeats 400000 in
theorem steps_any (g cap : Nat) (K : Steps) (w : World) (hn : K.n ≤ 100000) (hK : CellsK w g K) (hS : ∀ i, i < K.n → (K.S i).size ≤ 140737488355328) :
    Calls Try.prog 8 #[.slice (some ⟨g, 0, none⟩) K.n cap] w fun e w' => ∃ g', e = .returned (.tuple #[.slice (some ⟨g', 0, none⟩) K.n K.n, .bool true]) ∧ Cells3 w' (some ⟨g', 0, none⟩) (rd K) ∧ Below w.heap.size w w' := by
  have HK : Hid (CellsK w g K) := hK
  have HS : Hid (∀ i, i < K.n → (K.S i).size ≤ 140737488355328) := hS
  clear hK hS
  obtain ⟨i0, hi, hz0, hz1, hz2⟩ := info_parts info38
  go_enter Try.func8, Try.ntmps8
  go_wp2_with (at_make; refine wpList_make_full _ rfl _ _ 29 rfl w.heap.size 38 i0 _ 3 Try.underlying29 hi hz0 hz1 .i64 .i64 _ _ K.n rfl rfl rfl rfl ?c1 ?c2 ?c3 ?_)
  case c1 => rw [hz2]; omega
  case c2 => unfold maxLen; omega
  case c3 => omega
  intro w1 hown hgr
  obtain ⟨C0, hO0⟩ := OwnBlk.ofOwns hown rfl
  have HO0 : Hid (OwnBlk w1 w.heap.size 38 (K.n * 3) C0) := hO0
  have HB0 : Hid (Below w.heap.size w w1) := (Below.refl _ _).grown hgr (Nat.le_refl _) (fun _ h => by cases h)
  clear hi hz0 hz1 hz2 hO0 hown hgr
  go_wp2
  go_loopw [5] (fun i wr => ∃ (k : Nat) (C : Nat → Value), k ≤ K.n ∧ i = .int .i64 k ∧ OwnBlk wr w.heap.size 38 (K.n * 3) C ∧ (∀ i, i < k → Is3 (rd K) i C) ∧ Below w.heap.size w wr) (fun i _ => K.n - (intOf i).toNat)
  case atStart => exact ⟨0, C0, Nat.zero_le _, rfl, HO0.out, fun _ h => by omega, HB0.out⟩
  case round =>
    obtain ⟨k, C, hk, rfl, hO, hC, hB⟩ := hrel
    by_cases hlt : k < K.n
    · have f0 := hO.free (k * 3)
      have f1 := hO.free (k * 3 + 1)
      have f2 := hO.free (k * 3 + 2)
      have e0 := hO.cell (k * 3) (by omega)
      have e1 := hO.cell (k * 3 + 1) (by omega)
      have e2 := hO.cell (k * 3 + 2) (by omega)
      have d0 := (hB.cell (p := ⟨g, k, none⟩) HK.out.1).trans (HK.out.2 k hlt)
      have R : Hid _ := fill3 ((rd K).B k) ((rd K).S k) ((rd K).N k) hO hB (Is3 (rd K)) (fun i D _ h e => ⟨e.1.trans h.1, e.2.1.trans h.2.1, e.2.2.trans h.2.2⟩) (fun D x y z => ⟨x, y, z⟩) hC
      clear hO hC hB
      generalize C (k * 3) = C0 at *
      generalize C (k * 3 + 1) = C1 at *
      generalize C (k * 3 + 2) = C2 at *
      cases hbk : K.B k with
      | true =>
        have q1 : (rd K).B k = true := hbk
        have q2 : (rd K).S k = ⟨#[]⟩ := by simp [rd, hbk]
        have q3 : (rd K).N k = K.N k := by simp [rd, hbk]
        rw [kv_int K k hbk] at d0
        rw [q1, q2, q3] at R
        clear hbk q1 q2 q3
        go_wp2
        go_roundw
        case rel =>
          obtain ⟨D, r1, r2, r3⟩ := R.out
          exact ⟨k + 1, D, by omega, by go_num, r1, r2, r3⟩
        case measure => simp [intOf]; omega
      | false =>
        have q1 : (rd K).B k = false := hbk
        have q2 : (rd K).S k = K.S k := by simp [rd, hbk]
        have q3 : (rd K).N k = 0 := by simp [rd, hbk]
        rw [kv_str K k hbk] at d0
        rw [q1, q2, q3] at R
        clear hbk q1 q2 q3
        go_wp2
        go_roundw
        case rel =>
          obtain ⟨D, r1, r2, r3⟩ := R.out
          exact ⟨k + 1, D, by omega, by go_num, r1, r2, r3⟩
        case measure => simp [intOf]; omega
    · obtain rfl : k = K.n := by omega
      have HO : Hid (OwnBlk wr w.heap.size 38 (K.n * 3) C) := hO
      have HC : Hid (∀ i, i < K.n → Is3 (rd K) i C) := hC
      have HB : Hid (Below w.heap.size w wr) := hB
      clear hO hC hB
      go_wp2
      go_ret2
      refine ⟨_, rfl, Cells3.ofOwn (K := rd K) HO.out HC.out (fun i hi => ?_), HB.out⟩
      show (if K.B i = true then (⟨#[]⟩ : ByteArray) else K.S i).size ≤ _
      split
      · exact Nat.zero_le _
      · exact HS.out i hi

/-- zzSameStep at two steps that agree. -/
theorem same_any (gb wb : Bool) (gs ws : ByteArray) (gn wn : Int) (w : World) (h : if wb = true then gb = true ∧ gn = wn else gb = false ∧ gs = ws) :
    Calls Try.prog 15 #[.agg #[.bool gb, .string gs, .int .i64 gn], .agg #[.bool wb, .string ws, .int .i64 wn]] w fun e w' => e = .returned (.bool true) ∧ Below w.heap.size w w' := by
  cases wb with
  | true =>
    rw [if_pos rfl] at h
    obtain ⟨rfl, rfl⟩ := h
    go_enter Try.func15, Try.ntmps15
    go_wp2
    go_ret
    exact ⟨rfl, ((Below.refl _ _).alloc (Nat.le_refl _) _).alloc (by simp) _⟩
  | false =>
    rw [if_neg (by decide)] at h
    obtain ⟨rfl, rfl⟩ := h
    go_enter Try.func15, Try.ntmps15
    go_wp2
    go_ret
    exact ⟨rfl, ((Below.refl _ _).alloc (Nat.le_refl _) _).alloc (by simp) _⟩
end Go.Proofs.Qxb6618937a
