/-
  The makers: zzToSteps (11), ZZkey (10), ZZsteps (8).
-/
import Derived.Test.Qxb6618937aMem
namespace Go.Proofs.Qxb6618937a
open Go.RowKit

set_option maxHeartbeats 400000 in
theorem toSteps (a : Option Addr) (cap : Nat) (K : Steps) (w : World) (hn : K.n ≤ 4096) (hK : Cells3 w a K) :
    Calls Try.prog 11 #[.slice a K.n cap] w fun e w' => ∃ g, e = .returned (.slice (some ⟨g, 0, none⟩) K.n K.n) ∧ Cells3 w' (some ⟨g, 0, none⟩) K ∧ Below w.heap.size w w' := by
  have HK : Hid (Cells3 w a K) := hK
  clear hK
  obtain ⟨i0, hi, hz0, hz1, hz2⟩ := info_parts info38
  go_enter Try.func11, Try.ntmps11
  go_wp2_with (at_make; refine wpList_make_full _ rfl _ _ 29 rfl w.heap.size 38 i0 _ 3 Try.underlying29 hi hz0 hz1 .i64 .i64 _ _ K.n rfl rfl rfl rfl ?c1 ?c2 ?c3 ?_)
  case c1 => rw [hz2]; omega
  case c2 => unfold maxLen; omega
  case c3 => omega
  intro w1 hown hgr
  obtain ⟨C0, hO0⟩ := OwnBlk.ofOwns hown rfl
  have HO0 : Hid (OwnBlk w1 w.heap.size 38 (K.n * 3) C0) := hO0
  have HB0 : Hid (Below w.heap.size w w1) := (Below.refl _ _).grown hgr (Nat.le_refl _) (fun _ h => by cases h)
  clear hi hz0 hz1 hz2 hO0 hown hgr
  go_wp2
  go_loopw [4] (fun i wr => ∃ (k : Nat) (C : Nat → Value), k ≤ K.n ∧ i = .int .i64 k ∧ OwnBlk wr w.heap.size 38 (K.n * 3) C ∧ (∀ i, i < k → Is3 K i C) ∧ Below w.heap.size w wr) (fun i _ => K.n - (intOf i).toNat)
  case atStart => exact ⟨0, C0, Nat.zero_le _, rfl, HO0.out, fun _ h => by omega, HB0.out⟩
  case round =>
    obtain ⟨k, C, hk, rfl, hO, hC, hB⟩ := hrel
    by_cases hlt : k < K.n
    · obtain ⟨b, off, rfl, hb, c0, c1, c2, hz⟩ := HK.out k hlt
      have f0 := hO.free (k * 3)
      have f1 := hO.free (k * 3 + 1)
      have f2 := hO.free (k * 3 + 2)
      have e0 := hO.cell (k * 3) (by omega)
      have e1 := hO.cell (k * 3 + 1) (by omega)
      have e2 := hO.cell (k * 3 + 2) (by omega)
      have d0 := (hB.cell (p := ⟨b, off + k * 3, none⟩) hb).trans c0
      have d1 := (hB.cell (p := ⟨b, off + k * 3 + 1, none⟩) hb).trans c1
      have d2 := (hB.cell (p := ⟨b, off + k * 3 + 2, none⟩) hb).trans c2
      have R : Hid _ := fill3 (K.B k) (K.S k) (K.N k) hO hB (Is3 K) (fun i D _ h e => ⟨e.1.trans h.1, e.2.1.trans h.2.1, e.2.2.trans h.2.2⟩) (fun D x y z => ⟨x, y, z⟩) hC
      clear hO hC hB c0 c1 c2
      generalize C (k * 3) = C0 at *
      generalize C (k * 3 + 1) = C1 at *
      generalize C (k * 3 + 2) = C2 at *
      go_wp2
      go_region
      all_goals go_wp2
      all_goals go_roundw
      case rel =>
        obtain ⟨D, r1, r2, r3⟩ := R.out
        exact ⟨k + 1, D, by omega, by go_num, r1.drew, r2, r3.drew⟩
      case measure => simp [intOf]; omega
    · obtain rfl : k = K.n := by omega
      have HO : Hid (OwnBlk wr w.heap.size 38 (K.n * 3) C) := hO
      have HC : Hid (∀ i, i < K.n → Is3 K i C) := hC
      have HB : Hid (Below w.heap.size w wr) := hB
      clear hO hC hB
      go_wp2
      go_ret
      exact ⟨_, rfl, Cells3.ofOwn HO.out HC.out (fun i hi => by obtain ⟨_, _, _, _, _, _, _, hz⟩ := HK.out i hi; exact hz), HB.out⟩

set_option maxHeartbeats 400000 in
theorem mkKey (a : Option Addr) (cap : Nat) (K : Steps) (w : World) (hn : K.n ≤ 4096) (hK : Cells3 w a K) :
    Calls Try.prog 10 #[.slice a K.n cap] w fun e w' => ∃ g, e = .returned (.slice (some ⟨g, 0, none⟩) K.n K.n) ∧ CellsK w' g K ∧ Below w.heap.size w w' := by
  have HK : Hid (Cells3 w a K) := hK
  clear hK
  obtain ⟨i0, hi, hz0, hz1, hz2⟩ := info_parts info20
  go_enter Try.func10, Try.ntmps10
  go_wp2_with (at_make; refine wpList_make_full _ rfl _ _ 26 rfl w.heap.size 20 i0 _ 1 Try.underlying26 hi hz0 hz1 .i64 .i64 _ _ K.n rfl rfl rfl rfl ?c1 ?c2 ?c3 ?_)
  case c1 => rw [hz2]; omega
  case c2 => unfold maxLen; omega
  case c3 => omega
  intro w1 hown hgr
  obtain ⟨C0, hO0⟩ := OwnBlk.ofOwns hown rfl
  rw [Nat.mul_one] at hO0
  have HO0 : Hid (OwnBlk w1 w.heap.size 20 K.n C0) := hO0
  have HB0 : Hid (Below w.heap.size w w1) := (Below.refl _ _).grown hgr (Nat.le_refl _) (fun _ h => by cases h)
  clear hi hz0 hz1 hz2 hO0 hown hgr
  go_wp2
  go_loopw [4] (fun i wr => ∃ (k : Nat) (C : Nat → Value), k ≤ K.n ∧ i = .int .i64 k ∧ OwnBlk wr w.heap.size 20 K.n C ∧ (∀ i, i < k → C i = kv K i) ∧ Below w.heap.size w wr) (fun i _ => K.n - (intOf i).toNat)
  case atStart => exact ⟨0, C0, Nat.zero_le _, rfl, HO0.out, fun _ h => by omega, HB0.out⟩
  case round =>
    obtain ⟨k, C, hk, rfl, hO, hC, hB⟩ := hrel
    by_cases hlt : k < K.n
    · obtain ⟨b, off, rfl, hb, c0, c1, c2, hz⟩ := HK.out k hlt
      have f0 := hO.free k
      have e0 := hO.cell k (by omega)
      have d0 := (hB.cell (p := ⟨b, off + k * 3, none⟩) hb).trans c0
      have d1 := (hB.cell (p := ⟨b, off + k * 3 + 1, none⟩) hb).trans c1
      have d2 := (hB.cell (p := ⟨b, off + k * 3 + 2, none⟩) hb).trans c2
      have R : Hid (∀ v, v = kv K k → OwnBlk (wr.setCell ⟨w.heap.size, k, none⟩ v) w.heap.size 20 K.n (upd C k v) ∧ (∀ i, i < k + 1 → upd C k v i = kv K i) ∧ Below w.heap.size w (wr.setCell ⟨w.heap.size, k, none⟩ v)) := by
        intro v hv
        refine ⟨hO.set k v, fun i hi => ?_, hB.setCell (Nat.le_refl _) _⟩
        by_cases e : i = k
        · subst e; rw [upd_at, hv]
        · rw [upd_ne _ _ _ e]; exact hC i (by omega)
      clear hO hC hB c0 c1 c2
      generalize C k = C0 at e0
      cases hbk : K.B k with
      | true =>
        have KV : Hid (kv K k = .iface 3 (.int .i64 (K.N k))) := kv_int K k hbk
        rw [hbk] at d0
        clear hbk
        go_wp2
        go_roundw
        case rel =>
          obtain ⟨r1, r2, r3⟩ := R.out _ KV.out.symm
          exact ⟨k + 1, _, by omega, by go_num, r1, r2, r3⟩
        case measure => simp [intOf]; omega
      | false =>
        have KV : Hid (kv K k = .iface 9 (.string (K.S k))) := kv_str K k hbk
        rw [hbk] at d0
        clear hbk
        go_wp2
        go_roundw
        case rel =>
          obtain ⟨r1, r2, r3⟩ := R.out _ KV.out.symm
          exact ⟨k + 1, _, by omega, by go_num, r1, r2, r3⟩
        case measure => simp [intOf]; omega
    · obtain rfl : k = K.n := by omega
      have HO : Hid (OwnBlk wr w.heap.size 20 K.n C) := hO
      have HC : Hid (∀ i, i < K.n → C i = kv K i) := hC
      have HB : Hid (Below w.heap.size w wr) := hB
      clear hO hC hB
      go_wp2
      go_ret
      exact ⟨_, rfl, ⟨HO.out.lt, fun i hi => by rw [HO.out.cell i hi, HC.out i hi]⟩, HB.out⟩

/-- zzKey. -/
theorem keyOf (a : Option Addr) (cap : Nat) (K : Steps) (w : World) (hn : K.n ≤ 4096) (hK : Cells3 w a K) :
    Calls Try.prog 6 #[.slice a K.n cap] w fun e w' => ∃ g, e = .returned (.slice (some ⟨g, 0, none⟩) K.n K.n) ∧ CellsK w' g K ∧ Below w.heap.size w w' := by
  have HK : Hid (Cells3 w a K) := hK
  clear hK
  go_enter Try.func6, Try.ntmps6
  go_wp2_with fail
  refine (toSteps a cap K w hn HK.out).mono ?_
  rintro e w1 ⟨g, rfl, h3, hb⟩
  have H3 : Hid (Cells3 w1 (some ⟨g, 0, none⟩) K) := h3
  have HB : Hid (Below w.heap.size w w1) := hb
  have hz := hb.size
  clear h3 hb
  go_wp2_with fail
  refine (mkKey _ _ K w1 hn H3.out).mono ?_
  rintro e w2 ⟨g2, rfl, h4, hb2⟩
  have H4 : Hid (CellsK w2 g2 K) := h4
  have HB2 : Hid (Below w1.heap.size w1 w2) := hb2
  clear h4 hb2
  go_wp2
  go_ret
  exact ⟨_, rfl, H4.out, HB.out.trans (HB2.out.mono hz)⟩
end Go.Proofs.Qxb6618937a
