/-
  The law FnReadZeroSetsSourceAndTargets (3), walked over its callees' contracts.
-/
import Derived.Test.Qxb6616519aGet
import Derived.Test.Qxb6616519aCopy
import Derived.Laws.CopyOwn
namespace Go.Proofs.Qxb6616519a.sets
open Go.RowKit
set_option linter.unusedVariables false

/-- The initial-value write of read j's object. -/
def wrf (O Z R : Nat → Int) (j : Int) : Int := Z (O (R j.toNat).toNat).toNat

theorem size3 : (Try.prog.info? 3).map (·.size) = some 1 := by kernel_rfl

theorem made_cur {w : World} {base g n : Nat} {xs : List Value} (h : w.ownsRow base 3 1 (.slice (some ⟨g, 0, none⟩) n n) n xs) : ∃ cur, w.heap[g]? = some (.cells cur 3 (0, 0)) ∧ cur.size = n := by
  rcases h.2 with ⟨h', _⟩ | ⟨g', cap', cur, h', _, hg, _, _, hsz, _⟩
  · simp at h'
  · simp only [Value.slice.injEq, Option.some.injEq, Addr.mk.injEq, and_true, true_and] at h'
    obtain ⟨rfl, rfl⟩ := h'
    exact ⟨cur, hg, by omega⟩

set_option maxRecDepth 100000 in
set_option maxHeartbeats 1000000 in
theorem sets_wide (aO aZ aR aS aJ : Option Addr) (nO nZ nR nS nJ cO cZ cR cS cJ : Nat) (O Z R S J : Nat → Int) (w : World) (hO : IV w aO nO O) (hZ : IV w aZ nZ Z) (hR : IV w aR nR R) (hJ : IV w aJ nJ J)
    (z1 : nO ≤ 140737488355328) (z2 : nZ ≤ 140737488355328) (z3 : nR ≤ 140737488355328) (z4 : nS ≤ 140737488355328) (z5 : nJ ≤ 140737488355328)
    (hw : ¬ (nO ≤ 16384 ∧ nZ ≤ 16384 ∧ nR ≤ 16384 ∧ nS ≤ 16384 ∧ nJ ≤ 16384 ∧ nS = nR)) :
    Calls Try.prog 3 #[.slice aO nO cO, .slice aZ nZ cZ, .slice aR nR cR, .slice aS nS cS, .slice aJ nJ cJ] w fun e w' => e = .returned (.bool true) ∧ Below w.heap.size w w' := by
  have HW : Hid (¬ (nO ≤ 16384 ∧ nZ ≤ 16384 ∧ nR ≤ 16384 ∧ nS ≤ 16384 ∧ nJ ≤ 16384 ∧ nS = nR)) := hw
  clear hw hO hZ hR hJ
  go_enter Try.func3, Try.ntmps3
  go_wp2_with fail
  refine (bytes7 aO aZ aR aS aJ nO nZ nR nS nJ cO cZ cR cS cJ w z1 z2 z3 z4 z5).mono ?_
  rintro e w1 ⟨⟨β, rfl⟩, rfl⟩
  cases β
  · go_wp2
    go_ret
    exact ⟨rfl, Below.refl _ _⟩
  go_wp2_with fail
  all_goals first
    | (go_ret; exact ⟨rfl, Below.refl _ _⟩)
    | (exfalso
       have h1 := HW.out
       have h2 : (nS : Int) = (nR : Int) := by simpa using ‹((nS : Int) != (nR : Int)) = false›
       omega)

set_option maxRecDepth 100000 in
set_option maxHeartbeats 4000000 in
theorem sets_small (aO aZ aR aS aJ : Option Addr) (nO nZ nR nJ cO cZ cR cS cJ : Nat) (O Z R S J : Nat → Int) (w : World) (hO : IV w aO nO O) (hZ : IV w aZ nZ Z) (hR : IV w aR nR R) (hS : IV w aS nR S) (hJ : IV w aJ nJ J)
    (z1 : nO ≤ 16384) (z2 : nZ ≤ 16384) (z3 : nR ≤ 16384) (z5 : nJ ≤ 16384) :
    Calls Try.prog 3 #[.slice aO nO cO, .slice aZ nZ cZ, .slice aR nR cR, .slice aS nR cS, .slice aJ nJ cJ] w fun e w' => e = .returned (.bool true) ∧ Below w.heap.size w w' := by
  have HO : Hid (IV w aO nO O) := hO
  have HZ : Hid (IV w aZ nZ Z) := hZ
  have HR : Hid (IV w aR nR R) := hR
  have HS : Hid (IV w aS nR S) := hS
  have HJ : Hid (IV w aJ nJ J) := hJ
  clear hO hZ hR hS hJ
  go_enter Try.func3, Try.ntmps3
  go_wp2_with fail
  refine (bytes7 aO aZ aR aS aJ nO nZ nR nR nJ cO cZ cR cS cJ w (by omega) (by omega) (by omega) (by omega) (by omega)).mono ?_
  rintro e w1 ⟨⟨β, rfl⟩, rfl⟩
  cases β
  · go_wp2
    go_ret
    exact ⟨rfl, Below.refl _ _⟩
  go_wp2_with fail
  refine (domain_any aO aZ aR aJ nO nZ nR nJ cO cZ cR cJ O Z R J _ HO.out HZ.out HR.out HJ.out z1 z2 z3 z5).mono ?_
  rintro e w2 ⟨h | ⟨h, hdom⟩, rfl⟩
  · subst h
    go_wp2
    go_ret
    exact ⟨rfl, Below.refl _ _⟩
  subst h
  have HD : Hid (∀ i, i < nJ → Dom1 nO nZ nR O Z R (J i)) := hdom
  clear hdom
  go_upto_if 63 with fail
  go_cut [0] from 29 (fun s0 wx => ∃ a c, s0 = .slice a nO c ∧ IVb wx.heap.size wx a nO O ∧ Below w2.heap.size w2 wx)
  case first =>
    clear HZ HR HS HJ HD
    cases aO with
    | none =>
      have h0 : Hid (nO = 0) := HO.out.none_zero
      go_wp2
      go_meet
      case rel => exact ⟨none, cO, rfl, fun i hi => by have := h0.out; omega, Below.refl _ _⟩
    | some ad =>
      obtain ⟨i0, hi, hz0, hz1, hz2⟩ := info_parts info3
      go_upto_region 19 with (at_make; refine wpList_make_full _ rfl _ _ 22 rfl w2.heap.size 3 i0 _ 1 Try.underlying22 hi hz0 hz1 .i64 .i64 _ _ nO rfl rfl rfl rfl (by rw [hz2]; omega) (by unfold maxLen; omega) (Nat.le_refl _) ?_; intro w3 hown hgr)
      obtain ⟨cur, hcur, hcs⟩ := made_cur hown
      have hB3 : Below w2.heap.size w2 w3 := (Below.refl _ _).grown hgr (Nat.le_refl _) (fun _ h => by cases h)
      have hsrc : ∀ j v, ((List.range nO).map fun i => Value.int .i64 (O i))[j]? = some v → w3.cell? (ad.add j) = some v := by
        intro j v hv
        have hj : j < nO := by simpa using (List.getElem?_eq_some_iff.1 hv).1
        obtain ⟨b, off, e, hlt, hc⟩ := HO.out j hj
        cases e
        simp [hj] at hv
        rw [Addr.add_lit, (hB3.cell (p := ⟨b, off + j, none⟩) hlt), hc, hv]
      have hone : ∀ v ∈ ((List.range nO).map fun i => Value.int .i64 (O i)), v.oneCell' = true := by
        intro v hv
        obtain ⟨i, _, rfl⟩ := List.mem_map.1 hv
        rfl
      obtain ⟨l, hl⟩ : ∃ l, l = ((List.range nO).map fun i => Value.int .i64 (O i)) := ⟨_, rfl⟩
      have hlen : l.length = nO := by rw [hl]; simp
      rw [← hl] at hsrc hone
      have hfit : 0 + l.length ≤ cur.size := by omega
      have HL : Hid (l = ((List.range nO).map fun i => Value.int .i64 (O i))) := hl
      have HB3 : Hid (Below w2.heap.size w2 w3) := hB3
      have HSR : Hid _ := hsrc
      have HON : Hid _ := hone
      have HCU : Hid (w3.heap[w2.heap.size]? = some (.cells cur 3 (0, 0))) := hcur
      have hmin : l.length = Nat.min nO nO := by simp [hlen]
      clear hl hB3 hsrc hone hown hgr hi hz0 hz1 hz2 hcur
      have HM : Hid _ := hmin
      clear hmin
      go_wp2_with (refine wpList_copy_own rfl _ _ 22 22 rfl 3 Try.underlying22 size3 w2.heap.size 0 nO nO ad nO cO rfl rfl cur 3 HCU.out l HM.out HSR.out hfit HON.out ?_)
      go_meet
      case rel =>
        have hc := copied HB3.out HCU.out HL.out (List.drop nO cur.toList)
        exact ⟨_, _, rfl, hc.1, hc.2⟩
  case rest =>
    obtain ⟨aP, cP, rfl, hP, hB⟩ := hcut
    have P0 : Hid (IVb wc.heap.size wc aP nO O) := hP
    have B0 : Hid (Below w2.heap.size w2 wc) := hB
    have Z0 : Hid (IVb w2.heap.size wc aZ nZ Z) := HZ.out.toB.below hB (Nat.le_refl _)
    have R0 : Hid (IVb w2.heap.size wc aR nR R) := HR.out.toB.below hB (Nat.le_refl _)
    have S0 : Hid (IVb w2.heap.size wc aS nR S) := HS.out.toB.below hB (Nat.le_refl _)
    have J0 : Hid (IVb w2.heap.size wc aJ nJ J) := HJ.out.toB.below hB (Nat.le_refl _)
    have s0 := hB.size
    clear hP hB HO HZ HR HS HJ
    go_wp2_with fail
    refine (copy_any aZ nZ cZ Z wc (by omega) Z0.out.iv).mono ?_
    rintro e w3 ⟨aZ', cZ', rfl, rz, hb⟩
    have s1 := hb.size
    have P1 : Hid (IVb wc.heap.size w3 aP nO O) := P0.out.below hb (Nat.le_refl _)
    have B1 : Hid (Below w2.heap.size w2 w3) := B0.out.trans (hb.mono s0)
    have Z1 : Hid (IVb w2.heap.size w3 aZ nZ Z) := Z0.out.below hb s0
    have R1 : Hid (IVb w2.heap.size w3 aR nR R) := R0.out.below hb s0
    have S1 : Hid (IVb w2.heap.size w3 aS nR S) := S0.out.below hb s0
    have J1 : Hid (IVb w2.heap.size w3 aJ nJ J) := J0.out.below hb s0
    have rz1 : Hid (RowI w3 aZ' nZ Z wc.heap.size w3.heap.size) := rz
    clear rz hb P0 B0 Z0 R0 S0 J0
    go_wp2_with fail
    refine (copy_any aR nR cR R w3 (by omega) R1.out.iv).mono ?_
    rintro e w4 ⟨aR', cR', rfl, rr, hb⟩
    have s2 := hb.size
    have P2 : Hid (IVb wc.heap.size w4 aP nO O) := P1.out.below hb s1
    have B2 : Hid (Below w2.heap.size w2 w4) := B1.out.trans (hb.mono (Nat.le_trans s0 s1))
    have Z2 : Hid (IVb w2.heap.size w4 aZ nZ Z) := Z1.out.below hb (Nat.le_trans s0 s1)
    have R2 : Hid (IVb w2.heap.size w4 aR nR R) := R1.out.below hb (Nat.le_trans s0 s1)
    have S2 : Hid (IVb w2.heap.size w4 aS nR S) := S1.out.below hb (Nat.le_trans s0 s1)
    have J2 : Hid (IVb w2.heap.size w4 aJ nJ J) := J1.out.below hb (Nat.le_trans s0 s1)
    have rz2 : Hid (RowI w4 aZ' nZ Z wc.heap.size w3.heap.size) := rz1.out.same (fun k _ hk => hb.block k hk)
    have rr2 : Hid (RowI w4 aR' nR R w3.heap.size w4.heap.size) := rr
    clear rr hb P1 B1 Z1 R1 S1 J1 rz1
    go_wp2_with fail
    refine (copy_any aS nR cS S w4 (by omega) S2.out.iv).mono ?_
    rintro e w5 ⟨aS', cS', rfl, rs, hb⟩
    have s3 := hb.size
    have P3 : Hid (IVb wc.heap.size w5 aP nO O) := P2.out.below hb (Nat.le_trans s1 s2)
    have B3 : Hid (Below w2.heap.size w2 w5) := B2.out.trans (hb.mono (Nat.le_trans s0 (Nat.le_trans s1 s2)))
    have Z3 : Hid (IVb w2.heap.size w5 aZ nZ Z) := Z2.out.below hb (Nat.le_trans s0 (Nat.le_trans s1 s2))
    have R3 : Hid (IVb w2.heap.size w5 aR nR R) := R2.out.below hb (Nat.le_trans s0 (Nat.le_trans s1 s2))
    have S3 : Hid (IVb w2.heap.size w5 aS nR S) := S2.out.below hb (Nat.le_trans s0 (Nat.le_trans s1 s2))
    have J3 : Hid (IVb w2.heap.size w5 aJ nJ J) := J2.out.below hb (Nat.le_trans s0 (Nat.le_trans s1 s2))
    have rz3 : Hid (RowI w5 aZ' nZ Z wc.heap.size w3.heap.size) := rz2.out.same (fun k _ hk => hb.block k (by omega))
    have rr3 : Hid (RowI w5 aR' nR R w3.heap.size w4.heap.size) := rr2.out.same (fun k _ hk => hb.block k hk)
    have rs3 : Hid (RowI w5 aS' nR S w4.heap.size w5.heap.size) := rs
    clear rs hb P2 B2 Z2 R2 S2 J2 rz2 rr2
    have s05 : w2.heap.size ≤ w5.heap.size := Nat.le_trans s0 (Nat.le_trans s1 (Nat.le_trans s2 s3))
    have sc5 : wc.heap.size ≤ w5.heap.size := Nat.le_trans s1 (Nat.le_trans s2 s3)
    go_wp2_with fail
    refine (copy_any aS nR cS S w5 (by omega) S3.out.iv).mono ?_
    rintro e w6 ⟨aW, cW, rfl, rw6, hb⟩
    have RW6 : Hid (RowI w6 aW nR S w5.heap.size w6.heap.size) := rw6
    have B6 : Hid (Below w5.heap.size w5 w6) := hb
    have s6 := hb.size
    clear rw6 hb S3
    obtain ⟨i0, hi, hz0, hz1, hz2⟩ := info_parts info4
    go_wp2_with (at_make; refine wpList_make_full _ rfl _ _ 26 rfl w6.heap.size 4 i0 (.bool false) 1 Try.underlying26 hi hz0 hz1 .i64 .i64 _ _ nO rfl rfl rfl rfl (by rw [hz2]; omega) (by unfold maxLen; omega) (Nat.le_refl _) ?_; intro w7 hown hgr)
    obtain ⟨C0, hO0, hC0⟩ := OwnBlk.ofOwns hown rfl
    have E0 : Hid (∀ y, y < nO → C0 y = .bool false) := fun y hy => by
      have h1 := hC0 y (by omega)
      rw [made4 nO y (by omega)] at h1
      exact (Option.some.inj h1).symm
    rw [Nat.mul_one] at hO0
    have s7 : Hid (w6.heap.size < w7.heap.size) := hO0.lt
    have HO0 : Hid (OwnBlk w7 w6.heap.size 4 nO C0) := hO0
    have hb7 : Below w6.heap.size w6 w7 := (Below.refl _ _).grown hgr (Nat.le_refl _) (fun _ h => by cases h)
    have B7 : Hid (Below w5.heap.size w5 w7) := B6.out.trans (hb7.mono s6)
    have RW7 : Hid (RowI w7 aW nR S w5.heap.size w6.heap.size) := RW6.out.same (fun k _ hk => hb7.block k hk)
    have HW : Hid (∀ j, wrf O Z R j = Z (O (R j.toNat).toNat).toNat) := fun _ => rfl
    clear hi hz0 hz1 hz2 hO0 hC0 hown hgr hb7 B6 RW6
    go_wp2
    go_loopw [17, 18] (fun v i wx => ∃ (k : Nat) (C : Nat → Value), k ≤ nJ ∧ i = .int .i64 k ∧ RowI wx aW nR (runS (wrf O Z R) J S k) w5.heap.size w6.heap.size ∧ OwnBlk wx w6.heap.size 4 nO C ∧ (∀ y, y < nO → C y = .bool (decide ((y : Int) ∈ runT (wrf O Z R) J k))) ∧
        wx.ownsRow w7.heap.size 3 1 v (runT (wrf O Z R) J k).length ((runT (wrf O Z R) J k).map (Value.int .i64)) ∧ Below w5.heap.size w5 wx ∧ w7.heap.size ≤ wx.heap.size) (fun _ i _ => nJ - (intOf i).toNat)
    case atStart => exact ⟨0, C0, Nat.zero_le _, rfl, RW7.out, HO0.out, fun y hy => by rw [E0.out y hy]; rfl, World.ownsRow_nil _ _ _ _, B7.out, Nat.le_refl _⟩
    case round =>
      obtain ⟨k, C, hk, rfl, hW, hO, hC, hv, hB, hsz⟩ := hrel
      by_cases hlt : k < nJ
      · obtain ⟨bJ, oJ, rfl, _, cj⟩ := (J3.out.below hB s05) k hlt
        obtain ⟨d1, d2, d3, d4, d5, d6, d7, d8⟩ := HD.out k hlt
        obtain ⟨bR, oR, rfl, _, cr⟩ := (R3.out.below hB s05) (J k).toNat (by omega)
        obtain ⟨bP, oP, rfl, _, cp⟩ := (P3.out.below hB sc5) (R (J k).toNat).toNat (by omega)
        obtain ⟨bZ, oZ, rfl, _, cz⟩ := (Z3.out.below hB s05) (O (R (J k).toNat).toNat).toNat (by omega)
        obtain ⟨gW, haW, lW, uW, hOW⟩ := row_at hW (j := (J k).toNat) (by omega)
        have cw := hOW.cell (J k).toNat (by omega)
        have fw := hOW.free (J k).toNat
        subst haW
        have ex : Hid (wrf O Z R (J k) = Z (O (R (J k).toNat).toNat).toNat) := rfl
        obtain ⟨x, hx⟩ : ∃ x, x = Z (O (R (J k).toNat).toNat).toNat := ⟨_, rfl⟩
        rw [← hx] at cz d7 d8 ex
        clear hx
        obtain ⟨ob, hob⟩ : ∃ ob, ob = O (R (J k).toNat).toNat := ⟨_, rfl⟩
        rw [← hob] at cp cz d5 d6
        clear hob
        obtain ⟨r, hr⟩ : ∃ r, r = R (J k).toNat := ⟨_, rfl⟩
        rw [← hr] at cr cp d3 d4
        clear hr
        obtain ⟨j, hj⟩ : ∃ j, j = J k := ⟨_, rfl⟩
        rw [← hj] at cj cr cw fw d1 d2
        have EJ : Hid (j = J k) := hj
        clear hj
        generalize runS (wrf O Z R) J S k j.toNat = y0 at cw
        have HO : Hid (OwnBlk wr w6.heap.size 4 nO C) := hO
        have HC : Hid (∀ y, y < nO → C y = .bool (decide ((y : Int) ∈ runT (wrf O Z R) J k))) := hC
        have HOW : Hid (OwnBlk wr gW 3 nR (fun j => .int .i64 (runS (wrf O Z R) J S k j))) := hOW
        have HV : Hid _ := hv
        have HB : Hid (Below w5.heap.size w5 wr) := hB
        clear hW hO hC hOW hv hB
        obtain ⟨aV, cV, hvv⟩ := own_shape HV.out
        subst hvv
        go_upto_region 33 with fail
        have HOq : Hid (OwnBlk (wr.setCell ⟨gW, j.toNat, none⟩ (.int .i64 x)) w6.heap.size 4 nO C) := HO.out.same (heap_setCell_ne _ _ _ _ _ (by omega))
        have HVq : Hid ((wr.setCell ⟨gW, j.toNat, none⟩ (.int .i64 x)).ownsRow w7.heap.size 3 1 (.slice aV (runT (wrf O Z R) J k).length cV) (runT (wrf O Z R) J k).length ((runT (wrf O Z R) J k).map (Value.int .i64))) := ownsRow_setCell_below HV.out (by have := s7.out; show gW < _; omega) _
        have HBq : Hid (Below w5.heap.size w5 (wr.setCell ⟨gW, j.toNat, none⟩ (.int .i64 x))) := HB.out.setCell lW _
        have RWq : Hid (RowI (wr.setCell ⟨gW, j.toNat, none⟩ (.int .i64 x)) (some ⟨gW, 0, none⟩) nR (runS (wrf O Z R) J S (k + 1)) w5.heap.size w6.heap.size) := by
          refine .inr ⟨gW, rfl, lW, uW, ?_⟩
          refine (HOW.out.set j.toNat (.int .i64 x)).congr (fun i hi => ?_)
          show upd _ _ _ i = Value.int .i64 (upd _ (J k).toNat (wrf O Z R (J k)) i)
          rw [ex.out, ← EJ.out]
          by_cases e : i = j.toNat
          · subst e; rw [upd_at, upd_at]
          · rw [upd_ne _ _ _ e, upd_ne _ _ _ e]
        have SZq : w7.heap.size ≤ (wr.setCell ⟨gW, j.toNat, none⟩ (.int .i64 x)).heap.size := by rw [size_setCell]; exact hsz
        clear HO HV HB HOW cw fw cj cr cp cz hsz
        generalize wr.setCell ⟨gW, j.toNat, none⟩ (.int .i64 x) = wq at *
        have cx := HOq.out.cell x.toNat (by omega)
        have fx := HOq.out.free x.toNat
        have hxx : ((x.toNat : Nat) : Int) = x := by omega
        rw [HC.out x.toNat (by omega), hxx] at cx
        have hlq := runT_len (wrf O Z R) J k
        by_cases hxT : x ∈ runT (wrf O Z R) J k
        · have hd : decide (x ∈ runT (wrf O Z R) J k) = true := decide_eq_true hxT
          rw [hd] at cx
          have HK : Hid (runT (wrf O Z R) J (k + 1) = runT (wrf O Z R) J k) := runT_keep (by rw [ex.out]; exact hxT)
          clear hd hxT
          go_wp2
          go_roundw
          case rel =>
            refine ⟨k + 1, C, by omega, by go_num, RWq.out, HOq.out, ?_, ?_, HBq.out, SZq⟩
            · rw [HK.out]; exact HC.out
            · rw [HK.out]; exact HVq.out
          case measure => simp [intOf]; omega
        · have hd : decide (x ∈ runT (wrf O Z R) J k) = false := decide_eq_false hxT
          rw [hd] at cx
          have HK : Hid (runT (wrf O Z R) J (k + 1) = runT (wrf O Z R) J k ++ [x]) := by
            have := runT_push (W := wrf O Z R) (J := J) (k := k) (by rw [ex.out]; exact hxT)
            rw [ex.out] at this
            exact this
          clear hd hxT
          go_upto_region 35 with fail
          have OT : Hid (OwnBlk (wq.setCell ⟨w6.heap.size, x.toNat, none⟩ (.bool true)) w6.heap.size 4 nO (upd C x.toNat (.bool true))) := HOq.out.set _ _
          have RT : Hid (RowI (wq.setCell ⟨w6.heap.size, x.toNat, none⟩ (.bool true)) (some ⟨gW, 0, none⟩) nR (runS (wrf O Z R) J S (k + 1)) w5.heap.size w6.heap.size) := RWq.out.same (fun i _ hi => heap_setCell_ne _ _ _ _ _ (by omega))
          have VT : Hid ((wq.setCell ⟨w6.heap.size, x.toNat, none⟩ (.bool true)).ownsRow w7.heap.size 3 1 (.slice aV (runT (wrf O Z R) J k).length cV) (runT (wrf O Z R) J k).length ((runT (wrf O Z R) J k).map (Value.int .i64))) := ownsRow_setCell_below HVq.out (by have := s7.out; show w6.heap.size < _; omega) _
          have BT : Hid (Below w5.heap.size w5 (wq.setCell ⟨w6.heap.size, x.toNat, none⟩ (.bool true))) := HBq.out.setCell s6 _
          have ST : w7.heap.size ≤ (wq.setCell ⟨w6.heap.size, x.toNat, none⟩ (.bool true)).heap.size := by rw [size_setCell]; exact SZq
          have DT : Hid (∀ y, y < nO → upd C x.toNat (.bool true) y = .bool (decide ((y : Int) ∈ runT (wrf O Z R) J (k + 1)))) := fun y hy => by
            rw [HK.out]
            by_cases e : y = x.toNat
            · subst e
              rw [upd_at]
              simp [hxx]
            · rw [upd_ne _ _ _ e, HC.out y hy]
              have : ¬ ((y : Int) = x) := by omega
              simp [this]
          clear HOq HVq HBq RWq SZq cx fx HC
          generalize wq.setCell ⟨w6.heap.size, x.toNat, none⟩ (.bool true) = wt at *
          generalize upd C x.toNat (.bool true) = CT at *
          obtain ⟨i0, hi, hz0, hz1, hz2⟩ := info_parts info3
          obtain ⟨T, hT⟩ : ∃ T, T = runT (wrf O Z R) J k := ⟨_, rfl⟩
          rw [← hT] at hlq
          rw [← hT] at VT
          rw [← hT] at HK
          rw [← hT]
          clear hT
          go_wp2_with (at_builtin; refine wpList_append_lies _ rfl _ _ 22 rfl w7.heap.size 3 i0 (.int .i64 0) 1 8 Try.underlying22 hi hz0 hz1 hz2 rfl (by decide) (.slice aV T.length cV) T.length (T.map (Value.int .i64)) rfl (VT.out.alloc _) ⟨wt.heap.size, 0, none⟩ 1 1 [.int .i64 x] rfl rfl (cell_one_new _ _ _) (by simp [Value.oneCell']) (by decide) (by unfold maxLen; omega) (by omega) (by simp; omega) (wt.heap.size + 1) (by simp) ?_; intro g cap w9 hown9 hgr9 hat9 hlt9; have HO9 : Hid _ := hown9; have HG9 : Hid _ := hgr9; clear hown9 hgr9 hat9 hlt9)
          go_roundw
          case rel =>
            have nlo : ∀ i, i < w7.heap.size → w9.heap[i]? = wt.heap[i]? := fun i hi => by
              rw [HG9.out.block i (by simp; omega) (own_ge VT.out hi)]
              exact heap_alloc_old wt _ (by omega)
            have h7 := s7.out
            refine ⟨k + 1, CT, by omega, by go_num, RT.out.same (fun i _ hi => nlo i (by omega)), OT.out.same (nlo _ h7), DT.out, ?_, ?_, ?_⟩
            · rw [HK.out]
              rw [List.length_append, List.map_append]
              exact HO9.out
            · exact (BT.out.alloc (by omega) _).grown HG9.out (by simp; omega) (fun i hi => by have h1 := (VT.out.lt i hi).1; omega)
            · have h1 := HG9.out.size
              simp at h1
              omega
          case measure => simp [intOf]; omega
      · obtain rfl : k = nJ := by omega
        obtain ⟨aV, cV, hvv⟩ := own_shape hv
        subst hvv
        have s8 := hB.size
        have P8 : Hid (IVb wc.heap.size wr aP nO O) := P3.out.below hB sc5
        have B8 : Hid (Below w2.heap.size w2 wr) := B3.out.trans (hB.mono s05)
        have J8 : Hid (IVb w2.heap.size wr aJ k J) := J3.out.below hB s05
        have rz8 : Hid (RowI wr aZ' nZ Z wc.heap.size w3.heap.size) := rz3.out.same (fun k _ hk => hB.block k (by omega))
        have rr8 : Hid (RowI wr aR' nR R w3.heap.size w4.heap.size) := rr3.out.same (fun k _ hk => hB.block k (by omega))
        have rs8 : Hid (RowI wr aS' nR S w4.heap.size w5.heap.size) := rs3.out.same (fun k _ hk => hB.block k hk)
        have HW8 : Hid (RowI wr aW nR (runS (wrf O Z R) J S k) w5.heap.size w6.heap.size) := hW
        have HV8 : Hid (wr.ownsRow w7.heap.size 3 1 (.slice aV (runT (wrf O Z R) J k).length cV) (runT (wrf O Z R) J k).length ((runT (wrf O Z R) J k).map (Value.int .i64))) := hv
        have SZ8 : Hid (w7.heap.size ≤ wr.heap.size) := hsz
        clear hO hC hB hW hv hsz P3 B3 Z3 R3 J3 rz3 rr3 rs3 B7 RW7 HO0 E0 HW C C0
        obtain ⟨w8, hw8⟩ : ∃ w8 : World, w8 = wr := ⟨_, rfl⟩
        subst hw8
        go_wp2_with fail
        refine (new_L aP nO cP O aZ' nZ cZ' Z aR' nR cR' R aS' cS' S wc.heap.size w3.heap.size w4.heap.size w5.heap.size w8 z1 P8.out.iv rz8.out rr8.out rs8.out ⟨s1, s2, s3, s8⟩).mono ?_
        rintro e w9 ⟨L, ⟨rfl, rfl, rfl, rfl, rfl, rfl⟩, hl, rfl, hs, hb⟩
        have LO : Hid (L.l0 = wc.heap.size ∧ L.l1 = w3.heap.size ∧ L.l2 = w4.heap.size ∧ L.l3 = w5.heap.size ∧ L.gO = w8.heap.size) := hl
        have hle : Hid (w2.heap.size ≤ wc.heap.size ∧ wc.heap.size ≤ w4.heap.size ∧ w4.heap.size ≤ w5.heap.size ∧ w5.heap.size ≤ w6.heap.size ∧ w6.heap.size ≤ w7.heap.size ∧ w7.heap.size ≤ w8.heap.size) := ⟨s0, Nat.le_trans s1 s2, s3, s6, Nat.le_of_lt s7.out, SZ8.out⟩
        have ew : wrf L.O L.Z L.R = L.wr := rfl
        have B9 : Hid (Below w2.heap.size w2 w9) := B8.out.trans (hb.mono (by omega))
        have J9 : Hid (IVb w2.heap.size w9 aJ k J) := J8.out.below hb (by omega)
        have HW9 : Hid (RowI w9 aW L.nR (runS L.wr J S k) w5.heap.size w6.heap.size) := by
          rw [← ew]
          exact HW8.out.same (fun i _ hi => hb.block i (by have := hle.out; omega))
        have HV9 : Hid (w9.ownsRow w7.heap.size 3 1 (.slice aV (runT L.wr J k).length cV) (runT L.wr J k).length ((runT L.wr J k).map (Value.int .i64))) := by
          rw [← ew]
          exact own_keep HV8.out (fun i hi => hb.block i (HV8.out.lt i hi).2)
        have HL9 : Hid (∀ i, (Value.slice aV (runT L.wr J k).length cV).ownBlock = some i → w7.heap.size ≤ i ∧ i < w8.heap.size) := by
          rw [← ew]
          exact HV8.out.lt
        have HS9 : Hid (SessT L w9 S []) := hs
        clear hl hs hb P8 B8 J8 rz8 rr8 rs8 HW8 HV8 SZ8 s0 s1 s2 s3 s05 sc5 s6 s7 s8
        go_wp2
        go_loopw [22] (fun i wx => ∃ m : Nat, m ≤ k ∧ i = .int .i64 m ∧ SessT L wx (runS L.wr J S m) (runT L.wr J m) ∧ Frm L L.gO w9 wx) (fun i _ => k - (intOf i).toNat)
        case atStart => exact ⟨0, Nat.zero_le _, rfl, HS9.out, Frm.refl _ _ _⟩
        case round =>
          obtain ⟨m, hm, rfl, hs, hf⟩ := hrel
          by_cases hlt2 : m < k
          · have hJr := Frm.ivb J9.out hf (by have := LO.out; have := hle.out; omega) (by have := LO.out; have := hle.out; omega)
            obtain ⟨bJ, oJ, rfl, _, cj⟩ := hJr m hlt2
            have HSk : Hid (SessT L wr (runS L.wr J S m) (runT L.wr J m)) := hs
            have HFk : Hid (Frm L L.gO w9 wr) := hf
            have hlen := runT_len L.wr J m
            have DK : Hid (Dom1 L.nO L.nZ L.nR L.O L.Z L.R (J m)) := HD.out m hlt2
            clear hJr hs hf
            obtain ⟨j, hj⟩ : ∃ j, j = J m := ⟨_, rfl⟩
            rw [← hj] at cj DK
            have EJ : Hid (j = J m) := hj
            clear hj
            go_wp2_with fail
            refine (zzReadZero_any HSk.out j DK.out (by omega) z1).mono ?_
            rintro e w10 ⟨rfl, q1, q2, q3⟩
            have Q1 : Hid (SessT L w10 (upd (runS L.wr J S m) j.toNat (L.wr j)) (addT (runT L.wr J m) (L.wr j))) := q1
            have Q2 : Hid (Frm L L.gO wr w10) := q2
            clear q1 q2 q3 hlen
            go_wp2
            go_roundw
            case rel =>
              refine ⟨m + 1, by omega, by go_num, ?_, HFk.out.trans Q2.out⟩
              have h1 := Q1.out
              rw [EJ.out] at h1
              exact h1
            case measure => simp [intOf]; omega
          · obtain rfl : m = k := by omega
            have hlen := runT_len L.wr J m
            have HSk : Hid (SessT L wr (runS L.wr J S m) (runT L.wr J m)) := hs
            have RWk : Hid (RowI wr aW L.nR (runS L.wr J S m) w5.heap.size w6.heap.size) := Frm.row HW9.out hf (by have := LO.out; have := hle.out; omega) (.inl (by have := LO.out; omega))
            have hvk : wr.ownsRow w7.heap.size 3 1 (.slice aV (runT L.wr J m).length cV) (runT L.wr J m).length ((runT L.wr J m).map (Value.int .i64)) := own_keep HV9.out (fun i hi => hf.2.2.2.2 i (by have := HL9.out i hi; have := LO.out; omega) (by have := HL9.out i hi; have := LO.out; have := hle.out; omega))
            obtain ⟨a0, c0, he0, hiv⟩ := iv_own hvk
            cases he0
            have BK : Hid (Below w2.heap.size w2 wr) := B9.out.trans (hf.below (by have := LO.out; have := hle.out; omega) (by have := LO.out; have := hle.out; omega))
            have IVk : Hid (IV wr aV (runT L.wr J m).length (fun i => (runT L.wr J m).getD i 0)) := hiv
            have ND : Hid (runT L.wr J m).Nodup := runT_nodup L.wr J m
            have TM : Hid (∀ y ∈ runT L.wr J m, 0 ≤ y ∧ y < L.nO) := fun y hy => by
              obtain ⟨i, hi, rfl⟩ := (runT_mem L.wr J m y).1 hy
              obtain ⟨d1, d2, d3, d4, d5, d6, d7, d8⟩ := HD.out i hi
              exact ⟨d7, d8⟩
            clear hs hf hvk hiv HW9 HV9 HL9 HS9 B9 J9
            obtain ⟨T, hT⟩ : ∃ T, T = runT L.wr J m := ⟨_, rfl⟩
            obtain ⟨Sn, hSn⟩ : ∃ Sn, Sn = runS L.wr J S m := ⟨_, rfl⟩
            rw [← hT] at hlen
            rw [← hT] at HSk
            rw [← hT] at IVk
            rw [← hT] at ND
            rw [← hT] at TM
            rw [← hSn] at HSk
            rw [← hSn] at RWk
            rw [← hT]
            clear hT hSn
            obtain ⟨wA, hwA⟩ : ∃ wA : World, wA = wr := ⟨_, rfl⟩
            subst hwA
            go_wp2_with fail
            refine (zzTargets_any HSk.out).mono ?_
            rintro e w10 ⟨⟨aT, cT, rfl, hiT, hbT⟩, rfl⟩
            have IT : Hid (IV w10 aT T.length (fun i => T.getD i 0)) := hiT
            clear hiT hbT
            go_wp2_with fail
            refine (zzSource_any HSk.out).mono ?_
            rintro e w11 ⟨rfl, rfl⟩
            go_wp2_with fail
            refine (same_any L.aS aW L.nR L.cS cW Sn Sn w11 (by omega) HSk.out.row.iv RWk.out.iv (fun _ _ => rfl)).mono ?_
            rintro e w12 ⟨rfl, q, hq⟩
            have HS12 : Hid (SessT L w12 Sn T) := by rw [hq]; exact HSk.out.keep (fun _ _ => rfl)
            have B12 : Hid (Below w2.heap.size w2 w12) := by rw [hq]; exact BK.out.trans ⟨rfl, rfl, rfl, Nat.le_refl _, fun _ _ => rfl⟩
            have IT12 : Hid (IV w12 aT T.length (fun i => T.getD i 0)) := by rw [hq]; exact IT.out
            have IV12 : Hid (IV w12 aV T.length (fun i => T.getD i 0)) := by rw [hq]; exact IVk.out
            clear hq HSk RWk BK IT IVk
            go_wp2_with fail
            refine (same_any aT aV T.length cT cV _ _ w12 (by omega) IT12.out IV12.out (fun _ _ => rfl)).mono ?_
            rintro e w13 ⟨rfl, q, hq⟩
            have HS13 : Hid (SessT L w13 Sn T) := by rw [hq]; exact HS12.out.keep (fun _ _ => rfl)
            have B13 : Hid (Below w2.heap.size w2 w13) := by rw [hq]; exact B12.out.trans ⟨rfl, rfl, rfl, Nat.le_refl _, fun _ _ => rfl⟩
            have IT13 : Hid (IV w13 aT T.length (fun i => T.getD i 0)) := by rw [hq]; exact IT12.out
            clear hq HS12 B12 IT12 IV12
            go_wp2_with fail
            refine (zzIsGrown_any HS13.out).mono ?_
            rintro e w14 ⟨⟨aG, cG, rfl, hfg⟩, rfl⟩
            have FG : Hid (FV w14 aG T.length) := hfg
            clear hfg
            go_wp2_with fail
            refine (zzIsChanged_any HS13.out).mono ?_
            rintro e w15 ⟨⟨aC, cC, rfl, hfc⟩, rfl⟩
            have FC : Hid (FV w15 aC T.length) := hfc
            clear hfc
            go_wp2_with fail
            refine (zzBeforeLen_any HS13.out).mono ?_
            rintro e w16 ⟨rfl, rfl⟩
            go_wp2
            go_loop [26] (fun i => ∃ p : Nat, p ≤ T.length ∧ i = .int .i64 p) (fun i => T.length - (intOf i).toNat)
            case atStart => exact ⟨0, Nat.zero_le _, rfl⟩
            case round =>
              obtain ⟨p, hp, rfl⟩ := hrel
              by_cases hlt3 : p < T.length
              · obtain ⟨bT, oT, rfl, _, ct⟩ := IT13.out p hlt3
                obtain ⟨bG, oG, rfl, cg⟩ := FG.out p hlt3
                obtain ⟨bC, oC, rfl, cc⟩ := FC.out p hlt3
                have hmem : T.getD p 0 ∈ T := by
                  rw [List.getD_eq_getElem?_getD, List.getElem?_eq_getElem hlt3]
                  exact List.getElem_mem hlt3
                obtain ⟨x0, x1⟩ := TM.out _ hmem
                have EX : Hid (T.idxOf (T.getD p 0) = p) := idxOf_getD ND.out hlt3
                have MX : Hid (T.getD p 0 ∈ T) := hmem
                clear hmem
                dsimp only at ct
                obtain ⟨x, hx⟩ : ∃ x, x = T.getD p 0 := ⟨_, rfl⟩
                rw [← hx] at ct x0 x1 EX MX
                clear hx
                go_wp2_with fail
                refine (zzTargetIndex_any HS13.out x MX.out x0 (by omega)).mono ?_
                rintro e w17 ⟨he, rfl⟩
                rw [EX.out] at he
                subst he
                go_wp2
                go_round
                case rel => exact ⟨p + 1, by omega, by go_num⟩
                case measure => simp [intOf]; omega
              · obtain rfl : p = T.length := by omega
                go_wp2
                go_ret
                exact ⟨rfl, B13.out⟩
end Go.Proofs.Qxb6616519a.sets
