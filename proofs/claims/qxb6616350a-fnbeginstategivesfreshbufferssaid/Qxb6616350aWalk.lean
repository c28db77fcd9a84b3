/-
  The law's walk (3).
-/
import Derived.Test.Qxb6616350aHead
import Derived.Deep.QuietTactic
import Derived.BigQuiet
namespace Go.Proofs.Qxb6616350a
open Go.RowKit

theorem OwnB.cell {w : World} {g m : Nat} {C : Nat → Int} (h : OwnB w g m C) (j : Nat) (hj : j < 6) : w.cell? ⟨g, j, none⟩ = some (.int .u8 (C j)) := by
  obtain ⟨cur, hg, _, hc⟩ := h
  rw [cell_of_row w g j cur 5 (0, 0) hg]
  exact hc j hj

theorem OwnB.free {w : World} {g m : Nat} {C : Nat → Int} (h : OwnB w g m C) (j : Nat) : w.frozen? ⟨g, j, none⟩ = false := by
  obtain ⟨cur, hg, _, hc⟩ := h
  simp [World.frozen?, hg]

theorem OwnB.lt {w : World} {g m : Nat} {C : Nat → Int} (h : OwnB w g m C) : g < w.heap.size := by
  obtain ⟨cur, hg, _, _⟩ := h
  exact (Array.getElem?_eq_some_iff.1 hg).1

def upd (C : Nat → Int) (j : Nat) (v : Int) : Nat → Int := fun i => if i = j then v else C i
theorem upd_at (C : Nat → Int) (j : Nat) (v : Int) : upd C j v j = v := by simp [upd]
theorem upd_ne (C : Nat → Int) (j : Nat) (v : Int) {i : Nat} (h : i ≠ j) : upd C j v i = C i := by simp [upd, h]

theorem OwnB.set {w : World} {g m : Nat} {C : Nat → Int} (h : OwnB w g m C) (hm : 6 ≤ m) (j : Nat) (v : Int) : OwnB (w.setCell ⟨g, j, none⟩ (.int .u8 v)) g m (upd C j v) := by
  obtain ⟨cur, hg, hs, hc⟩ := h
  refine ⟨cur.setIfInBounds j (.int .u8 v), ?_, by simpa using hs, ?_⟩
  · unfold World.setCell
    show (w.heap.modify g _)[g]? = _
    rw [Array.getElem?_modify, if_pos rfl, hg]
    rfl
  · intro i hi
    by_cases e : i = j
    · subst e
      rw [upd_at]
      have : i < cur.size := by omega
      simp [this]
    · rw [upd_ne _ _ _ e, Array.getElem?_setIfInBounds_ne (by omega)]
      exact hc i hi

theorem OwnB.other {w : World} {g m : Nat} {C : Nat → Int} (h : OwnB w g m C) {g' : Nat} (hne : g' ≠ g) (j : Nat) (v : Value) : OwnB (w.setCell ⟨g', j, none⟩ v) g m C := by
  obtain ⟨cur, hg, hs, hc⟩ := h
  refine ⟨cur, ?_, hs, hc⟩
  unfold World.setCell
  show (w.heap.modify g' _)[g]? = _
  rw [Array.getElem?_modify, if_neg hne]
  exact hg

theorem OwnB.below {w w' : World} {B g m : Nat} {C : Nat → Int} (h : OwnB w g m C) (hb : Below B w w') (hg : g < B) : OwnB w' g m C := by
  obtain ⟨cur, h1, h2, h3⟩ := h
  exact ⟨cur, (hb.block g hg).trans h1, h2, h3⟩

theorem OwnB.drewN {w : World} {g m : Nat} {C : Nat → Int} (h : OwnB w g m C) (n : Nat) : OwnB (w.drewN n) g m C := h

theorem make6 (w : World) : (Instr.makeSlice 22 (.int .i64 6) (.int .i64 6)).run Try.prog w = .ok (.slice (some ⟨w.heap.size, 0, none⟩) 6 6) (w.alloc (.cells #[.int .u8 0, .int .u8 0, .int .u8 0, .int .u8 0, .int .u8 0, .int .u8 0] 5)) := by kernel_rfl

/-- '^x' of a byte, as the walk writes it. -/
def nt (x : Int) : Int := bits BinOp.xor IntKind.u8 (if IntKind.u8.signed = true then -1 else IntKind.u8.max) x
theorem nt_fin : ∀ n : Fin 256, nt (nt (n.val : Int)) = (n.val : Int) := by decide +kernel
theorem nt_nt (x : Int) (h : 0 ≤ x ∧ x ≤ 255) : nt (nt x) = x := by
  have := nt_fin ⟨x.toNat, by omega⟩
  have e : ((x.toNat : Nat) : Int) = x := by omega
  simpa [e] using this

theorem hdr_bd (k : Int) (b : 0 ≤ k ∧ k ≤ 255) (j : Nat) : 0 ≤ hdr k j ∧ hdr k j ≤ 255 := by
  unfold hdr
  split
  · omega
  split
  · omega
  split
  · omega
  split
  · omega
  split
  · exact b
  · omega

set_option maxHeartbeats 1000000 in
theorem law_any (k1 k2 : Int) (b1 : 0 ≤ k1 ∧ k1 ≤ 255) (w : World) :
    Calls Try.prog 3 #[.int .u8 k1, .int .u8 k2] w fun e w' => e = .returned (.bool true) ∧ Below w.heap.size w w' := by
  have mk6 := make6
  go_enter Try.func3, Try.ntmps3
  go_wp2_with fail
  refine (zzbegin_any k1 w).mono ?_
  rintro e w1 ⟨ga, ca, rfl, oa, hca, gaw, bw1⟩
  have lta := oa.lt
  have OA : Hid (OwnB w1 ga ca (hdr k1)) := oa
  have B1 : Hid (Below w.heap.size w w1) := bw1
  clear oa bw1
  go_wp2_with fail
  refine (zzbegin_any k2 w1).mono ?_
  rintro e w2 ⟨gb, cb, rfl, ob, hcb, gbw, bw2⟩
  have ltb := ob.lt
  have OA2 : Hid (OwnB w2 ga ca (hdr k1)) := OA.out.below bw2 lta
  have OB2 : Hid (OwnB w2 gb cb (hdr k2)) := ob
  have B2 : Hid (Below w.heap.size w w2) := B1.out.trans (bw2.mono B1.out.size)
  clear ob bw2 OA B1
  go_wp2
  go_loopw [8] (fun i wr => ∃ (k : Nat) (C : Nat → Int), k ≤ 6 ∧ i = .int .i64 k ∧ OwnB wr w2.heap.size 6 C ∧ (∀ j, j < k → C j = hdr k2 j) ∧ Below w2.heap.size w2 wr) (fun i _ => 6 - (intOf i).toNat)
  case atStart =>
    refine ⟨0, fun _ => 0, by omega, rfl, ⟨_, heap_alloc_new w2 _, rfl, fun j hj => ?_⟩, fun _ h => by omega, (Below.refl _ _).alloc (Nat.le_refl _) _⟩
    rcases (by omega : j = 0 ∨ j = 1 ∨ j = 2 ∨ j = 3 ∨ j = 4 ∨ j = 5) with rfl | rfl | rfl | rfl | rfl | rfl <;> rfl
  case round =>
    obtain ⟨k, C, hk, rfl, hO, hC, hB⟩ := hrel
    by_cases hlt : k < 6
    · have e0 := hO.cell k hlt
      have f0 := hO.free k
      have d0 := (OB2.out.below hB ltb).cell k hlt
      have HO : Hid (OwnB wr w2.heap.size 6 C) := hO
      have HC : Hid (∀ j, j < k → C j = hdr k2 j) := hC
      have HB : Hid (Below w2.heap.size w2 wr) := hB
      clear hO hC hB
      obtain ⟨x, hx⟩ : ∃ x, x = hdr k2 k := ⟨_, rfl⟩
      rw [← hx] at d0
      have HX : Hid (x = hdr k2 k) := hx
      clear hx
      generalize C k = y at e0
      go_wp2
      go_roundw
      case rel =>
        refine ⟨k + 1, upd C k x, by omega, by go_num, HO.out.set (Nat.le_refl _) k x, fun j hj => ?_, HB.out.setCell (Nat.le_refl _) _⟩
        by_cases e : j = k
        · subst e; rw [upd_at, HX.out]
        · rw [upd_ne _ _ _ e]; exact HC.out j (by omega)
      case measure => simp [intOf]; omega
    · obtain rfl : k = 6 := by omega
      have OA3 : Hid (OwnB wr ga ca (hdr k1)) := OA2.out.below hB (by omega)
      have OB3 : Hid (OwnB wr gb cb (hdr k2)) := OB2.out.below hB ltb
      have OS3 : Hid (OwnB wr w2.heap.size 6 C) := hO
      have HC3 : Hid (∀ j, j < 6 → C j = hdr k2 j) := hC
      have B3 : Hid (Below w.heap.size w wr) := B2.out.trans (hB.mono B2.out.size)
      clear hO hC hB OA2 OB2 B2
      go_wp2
      go_loopw [9] (fun i wx => ∃ (k : Nat) (A : Nat → Int), k ≤ 6 ∧ i = .int .i64 k ∧ OwnB wx ga ca A ∧ (∀ j, j < k → A j = nt (hdr k1 j)) ∧ (∀ j, k ≤ j → A j = hdr k1 j) ∧ OwnB wx gb cb (hdr k2) ∧ OwnB wx w2.heap.size 6 C ∧ Below w.heap.size w wx) (fun i _ => 6 - (intOf i).toNat)
      case atStart => exact ⟨0, hdr k1, by omega, rfl, OA3.out, fun _ h => by omega, fun _ _ => rfl, OB3.out, OS3.out, B3.out⟩
      case round =>
        obtain ⟨k, A, hk, rfl, hA, hA1, hA2, hBb, hSs, hB⟩ := hrel
        by_cases hlt : k < 6
        · have e0 := hA.cell k hlt
          have f0 := hA.free k
          rw [hA2 k (Nat.le_refl _)] at e0
          have HA : Hid (OwnB wr ga ca A) := hA
          have HA1 : Hid (∀ j, j < k → A j = nt (hdr k1 j)) := hA1
          have HA2 : Hid (∀ j, k ≤ j → A j = hdr k1 j) := hA2
          have HBb : Hid (OwnB wr gb cb (hdr k2)) := hBb
          have HSs : Hid (OwnB wr w2.heap.size 6 C) := hSs
          have HB : Hid (Below w.heap.size w wr) := hB
          clear hA hA1 hA2 hBb hSs hB
          obtain ⟨x, hx⟩ : ∃ x, x = hdr k1 k := ⟨_, rfl⟩
          rw [← hx] at e0
          have HX : Hid (x = hdr k1 k) := hx
          clear hx
          go_wp2
          go_roundw
          case rel =>
            refine ⟨k + 1, upd A k (nt x), by omega, by go_num, HA.out.set hca k (nt x), fun j hj => ?_, fun j hj => ?_, HBb.out.other (by omega) _ _, HSs.out.other (by omega) _ _, HB.out.setCell gaw _⟩
            · by_cases e : j = k
              · subst e; rw [upd_at, HX.out]
              · rw [upd_ne _ _ _ e]; exact HA1.out j (by omega)
            · rw [upd_ne _ _ _ (by omega)]; exact HA2.out j (by omega)
          case measure => simp [intOf]; omega
        · obtain rfl : k = 6 := by omega
          have lts := hSs.lt
          have HA : Hid (OwnB wr ga ca A) := hA
          have HA1 : Hid (∀ j, j < 6 → A j = nt (hdr k1 j)) := hA1
          have HBb : Hid (OwnB wr gb cb (hdr k2)) := hBb
          have HSs : Hid (OwnB wr w2.heap.size 6 C) := hSs
          have HB : Hid (Below w.heap.size w wr) := hB
          clear hA hA1 hA2 hBb hSs hB OA3 OB3 OS3 B3
          go_wp2_with fail
          refine (zzbegin_any k1 _).mono ?_
          rintro e w4 ⟨gc, cc, rfl, oc, hcc, gcw, bw4⟩
          have RA : Hid (OwnB w4 ga ca A) := HA.out.below bw4 (by omega)
          have RB : Hid (OwnB w4 gb cb (hdr k2)) := HBb.out.below bw4 (by omega)
          have RS : Hid (OwnB w4 w2.heap.size 6 C) := HSs.out.below bw4 (by omega)
          have RC : Hid (OwnB w4 gc cc (hdr k1)) := oc
          have B4 : Hid (Below w.heap.size w w4) := HB.out.trans (bw4.mono HB.out.size)
          clear oc bw4 HA HBb HSs HB
          go_wp2
          go_loopw [11] (fun i wx => ∃ (k n : Nat), k ≤ 6 ∧ i = .int .i64 k ∧ wx = w4.drewN n) (fun i _ => 6 - (intOf i).toNat)
          case atStart => exact ⟨0, 0, by omega, rfl, rfl⟩
          case round =>
            obtain ⟨k, n, hk, rfl, hwx⟩ := hrel
            by_cases hlt : k < 6
            · have eb := RB.out.cell k hlt
              have es := RS.out.cell k hlt
              have ec := RC.out.cell k hlt
              have ea := RA.out.cell k hlt
              rw [HC3.out k hlt] at es
              rw [HA1.out k hlt] at ea
              have hne : (hdr k1 k != bits BinOp.xor IntKind.u8 (if IntKind.u8.signed = true then -1 else IntKind.u8.max) (nt (hdr k1 k))) = false := by
                have h1 := nt_nt (hdr k1 k) (hdr_bd k1 b1 k)
                have h2 : bits BinOp.xor IntKind.u8 (if IntKind.u8.signed = true then -1 else IntKind.u8.max) (nt (hdr k1 k)) = hdr k1 k := h1
                rw [h2]; simp
              obtain ⟨x, hx⟩ : ∃ x, x = hdr k1 k := ⟨_, rfl⟩
              rw [← hx] at ec ea hne
              clear hx
              obtain ⟨y, hy⟩ : ∃ y, y = nt x := ⟨_, rfl⟩
              rw [← hy] at ea hne
              clear hy
              generalize hdr k2 k = z at eb es
              have hki : (k : Int) < 6 := by omega
              subst hwx
              go_wp2
              go_quiet (fail)
              go_wp2
              go_roundw
              case rel => exact ⟨k + 1, _, by omega, by go_num, rfl⟩
              case measure => simp [intOf]; omega
            · obtain rfl : k = 6 := by omega
              subst hwx
              have eb : w4.cell? ⟨gb, 4, none⟩ = some (.int .u8 k2) := RB.out.cell 4 (by omega)
              have ec : w4.cell? ⟨gc, 4, none⟩ = some (.int .u8 k1) := RC.out.cell 4 (by omega)
              go_wp2
              go_ret
              exact ⟨rfl, below_drewN B4.out _⟩
end Go.Proofs.Qxb6616350a
