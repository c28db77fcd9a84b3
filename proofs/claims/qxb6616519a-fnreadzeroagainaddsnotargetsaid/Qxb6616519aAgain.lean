/-
  The law FnReadZeroAgainAddsNoTarget (4), walked over its callees' contracts.
-/
import Derived.Test.Qxb6616519aPlain
import Derived.Test.Qxb6616519aCopy
import Derived.Laws.CopyOwn
namespace Go.Proofs.Qxb6616519a
open Go.RowKit
set_option linter.unusedVariables false

theorem size3 : (Try.prog.info? 3).map (·.size) = some 1 := by kernel_rfl

theorem made_cur {w : World} {base g n : Nat} {xs : List Value} (h : w.ownsRow base 3 1 (.slice (some ⟨g, 0, none⟩) n n) n xs) : ∃ cur, w.heap[g]? = some (.cells cur 3 (0, 0)) ∧ cur.size = n := by
  rcases h.2 with ⟨h', _⟩ | ⟨g', cap', cur, h', _, hg, _, _, hsz, _⟩
  · simp at h'
  · simp only [Value.slice.injEq, Option.some.injEq, Addr.mk.injEq, and_true, true_and] at h'
    obtain ⟨rfl, rfl⟩ := h'
    exact ⟨cur, hg, by omega⟩

set_option maxRecDepth 100000 in
set_option maxHeartbeats 1000000 in
theorem again_wide (aO aZ aR aS aJ : Option Addr) (nO nZ nR nS nJ cO cZ cR cS cJ : Nat) (O Z R S J : Nat → Int) (w : World) (hO : IV w aO nO O) (hZ : IV w aZ nZ Z) (hR : IV w aR nR R) (hJ : IV w aJ nJ J)
    (z1 : nO ≤ 140737488355328) (z2 : nZ ≤ 140737488355328) (z3 : nR ≤ 140737488355328) (z4 : nS ≤ 140737488355328) (z5 : nJ ≤ 140737488355328)
    (hw : ¬ (nO ≤ 16384 ∧ nZ ≤ 16384 ∧ nR ≤ 16384 ∧ nS ≤ 16384 ∧ nJ ≤ 16384 ∧ nS = nR)) :
    Calls Try.prog 4 #[.slice aO nO cO, .slice aZ nZ cZ, .slice aR nR cR, .slice aS nS cS, .slice aJ nJ cJ] w fun e w' => e = .returned (.bool true) ∧ Below w.heap.size w w' := by
  have HW : Hid (¬ (nO ≤ 16384 ∧ nZ ≤ 16384 ∧ nR ≤ 16384 ∧ nS ≤ 16384 ∧ nJ ≤ 16384 ∧ nS = nR)) := hw
  clear hw hO hZ hR hJ
  go_enter Try.func4, Try.ntmps4
  go_wp2_with fail
  refine (bytes19 aO aZ aR aS aJ nO nZ nR nS nJ cO cZ cR cS cJ w z1 z2 z3 z4 z5).mono ?_
  rintro e w1 ⟨⟨β, rfl⟩, rfl⟩
  cases β
  · go_wp2
    go_ret
    exact ⟨rfl, Below.refl _ _⟩
  go_wp2_with fail
  all_goals first
    | (go_ret; exact ⟨rfl, Below.refl _ _⟩)
    | (exfalso
       have h1 := HW.out
       have h2 : (nS : Int) = (nR : Int) := by simpa using ‹((nS : Int) != (nR : Int)) = false›
       omega)

set_option maxRecDepth 100000 in
set_option maxHeartbeats 4000000 in
theorem again_small (aO aZ aR aS aJ : Option Addr) (nO nZ nR nJ cO cZ cR cS cJ : Nat) (O Z R S J : Nat → Int) (w : World) (hO : IV w aO nO O) (hZ : IV w aZ nZ Z) (hR : IV w aR nR R) (hS : IV w aS nR S) (hJ : IV w aJ nJ J)
    (z1 : nO ≤ 16384) (z2 : nZ ≤ 16384) (z3 : nR ≤ 16384) (z5 : nJ ≤ 16384) :
    Calls Try.prog 4 #[.slice aO nO cO, .slice aZ nZ cZ, .slice aR nR cR, .slice aS nR cS, .slice aJ nJ cJ] w fun e w' => e = .returned (.bool true) ∧ Below w.heap.size w w' := by
  have HO : Hid (IV w aO nO O) := hO
  have HZ : Hid (IV w aZ nZ Z) := hZ
  have HR : Hid (IV w aR nR R) := hR
  have HS : Hid (IV w aS nR S) := hS
  have HJ : Hid (IV w aJ nJ J) := hJ
  clear hO hZ hR hS hJ
  go_enter Try.func4, Try.ntmps4
  go_wp2_with fail
  refine (bytes19 aO aZ aR aS aJ nO nZ nR nR nJ cO cZ cR cS cJ w (by omega) (by omega) (by omega) (by omega) (by omega)).mono ?_
  rintro e w1 ⟨⟨β, rfl⟩, rfl⟩
  cases β
  · go_wp2
    go_ret
    exact ⟨rfl, Below.refl _ _⟩
  go_wp2_with fail
  refine (domain_any aO aZ aR aJ nO nZ nR nJ cO cZ cR cJ O Z R J _ HO.out HZ.out HR.out HJ.out z1 z2 z3 z5).mono ?_
  rintro e w2 ⟨h | ⟨h, hdom⟩, rfl⟩
  · subst h
    go_wp2
    go_ret
    exact ⟨rfl, Below.refl _ _⟩
  subst h
  have HD : Hid (∀ i, i < nJ → Dom1 nO nZ nR O Z R (J i)) := hdom
  clear hdom
  go_upto_if 63 with fail
  go_cut [0] from 29 (fun s0 wx => ∃ a c, s0 = .slice a nO c ∧ IVb wx.heap.size wx a nO O ∧ Below w2.heap.size w2 wx)
  case first =>
    clear HZ HR HS HJ HD
    cases aO with
    | none =>
      have h0 : Hid (nO = 0) := HO.out.none_zero
      go_wp2
      go_meet
      case rel => exact ⟨none, cO, rfl, fun i hi => by have := h0.out; omega, Below.refl _ _⟩
    | some ad =>
      obtain ⟨i0, hi, hz0, hz1, hz2⟩ := info_parts info3
      go_upto_region 19 with (at_make; refine wpList_make_full _ rfl _ _ 22 rfl w2.heap.size 3 i0 _ 1 Try.underlying22 hi hz0 hz1 .i64 .i64 _ _ nO rfl rfl rfl rfl (by rw [hz2]; omega) (by unfold maxLen; omega) (Nat.le_refl _) ?_; intro w3 hown hgr)
      obtain ⟨cur, hcur, hcs⟩ := made_cur hown
      have hB3 : Below w2.heap.size w2 w3 := (Below.refl _ _).grown hgr (Nat.le_refl _) (fun _ h => by cases h)
      have hsrc : ∀ j v, ((List.range nO).map fun i => Value.int .i64 (O i))[j]? = some v → w3.cell? (ad.add j) = some v := by
        intro j v hv
        have hj : j < nO := by simpa using (List.getElem?_eq_some_iff.1 hv).1
        obtain ⟨b, off, e, hlt, hc⟩ := HO.out j hj
        cases e
        simp [hj] at hv
        rw [Addr.add_lit, (hB3.cell (p := ⟨b, off + j, none⟩) hlt), hc, hv]
      have hone : ∀ v ∈ ((List.range nO).map fun i => Value.int .i64 (O i)), v.oneCell' = true := by
        intro v hv
        obtain ⟨i, _, rfl⟩ := List.mem_map.1 hv
        rfl
      obtain ⟨l, hl⟩ : ∃ l, l = ((List.range nO).map fun i => Value.int .i64 (O i)) := ⟨_, rfl⟩
      have hlen : l.length = nO := by rw [hl]; simp
      rw [← hl] at hsrc hone
      have hfit : 0 + l.length ≤ cur.size := by omega
      have HL : Hid (l = ((List.range nO).map fun i => Value.int .i64 (O i))) := hl
      have HB3 : Hid (Below w2.heap.size w2 w3) := hB3
      have HSR : Hid _ := hsrc
      have HON : Hid _ := hone
      have HCU : Hid (w3.heap[w2.heap.size]? = some (.cells cur 3 (0, 0))) := hcur
      have hmin : l.length = Nat.min nO nO := by simp [hlen]
      clear hl hB3 hsrc hone hown hgr hi hz0 hz1 hz2 hcur
      have HM : Hid _ := hmin
      clear hmin
      go_wp2_with (refine wpList_copy_own rfl _ _ 22 22 rfl 3 Try.underlying22 size3 w2.heap.size 0 nO nO ad nO cO rfl rfl cur 3 HCU.out l HM.out HSR.out hfit HON.out ?_)
      go_meet
      case rel =>
        have hc := copied HB3.out HCU.out HL.out (List.drop nO cur.toList)
        exact ⟨_, _, rfl, hc.1, hc.2⟩
  case rest =>
    obtain ⟨aP, cP, rfl, hP, hB⟩ := hcut
    have P0 : Hid (IVb wc.heap.size wc aP nO O) := hP
    have B0 : Hid (Below w2.heap.size w2 wc) := hB
    have Z0 : Hid (IVb w2.heap.size wc aZ nZ Z) := HZ.out.toB.below hB (Nat.le_refl _)
    have R0 : Hid (IVb w2.heap.size wc aR nR R) := HR.out.toB.below hB (Nat.le_refl _)
    have S0 : Hid (IVb w2.heap.size wc aS nR S) := HS.out.toB.below hB (Nat.le_refl _)
    have J0 : Hid (IVb w2.heap.size wc aJ nJ J) := HJ.out.toB.below hB (Nat.le_refl _)
    have s0 := hB.size
    clear hP hB HO HZ HR HS HJ
    go_wp2_with fail
    refine (copy_any aZ nZ cZ Z wc (by omega) Z0.out.iv).mono ?_
    rintro e w3 ⟨aZ', cZ', rfl, rz, hb⟩
    have s1 := hb.size
    have P1 : Hid (IVb wc.heap.size w3 aP nO O) := P0.out.below hb (Nat.le_refl _)
    have B1 : Hid (Below w2.heap.size w2 w3) := B0.out.trans (hb.mono s0)
    have Z1 : Hid (IVb w2.heap.size w3 aZ nZ Z) := Z0.out.below hb s0
    have R1 : Hid (IVb w2.heap.size w3 aR nR R) := R0.out.below hb s0
    have S1 : Hid (IVb w2.heap.size w3 aS nR S) := S0.out.below hb s0
    have J1 : Hid (IVb w2.heap.size w3 aJ nJ J) := J0.out.below hb s0
    have rz1 : Hid (RowI w3 aZ' nZ Z wc.heap.size w3.heap.size) := rz
    clear rz hb P0 B0 Z0 R0 S0 J0
    go_wp2_with fail
    refine (copy_any aR nR cR R w3 (by omega) R1.out.iv).mono ?_
    rintro e w4 ⟨aR', cR', rfl, rr, hb⟩
    have s2 := hb.size
    have P2 : Hid (IVb wc.heap.size w4 aP nO O) := P1.out.below hb s1
    have B2 : Hid (Below w2.heap.size w2 w4) := B1.out.trans (hb.mono (Nat.le_trans s0 s1))
    have Z2 : Hid (IVb w2.heap.size w4 aZ nZ Z) := Z1.out.below hb (Nat.le_trans s0 s1)
    have R2 : Hid (IVb w2.heap.size w4 aR nR R) := R1.out.below hb (Nat.le_trans s0 s1)
    have S2 : Hid (IVb w2.heap.size w4 aS nR S) := S1.out.below hb (Nat.le_trans s0 s1)
    have J2 : Hid (IVb w2.heap.size w4 aJ nJ J) := J1.out.below hb (Nat.le_trans s0 s1)
    have rz2 : Hid (RowI w4 aZ' nZ Z wc.heap.size w3.heap.size) := rz1.out.same (fun k _ hk => hb.block k hk)
    have rr2 : Hid (RowI w4 aR' nR R w3.heap.size w4.heap.size) := rr
    clear rr hb P1 B1 Z1 R1 S1 J1 rz1
    go_wp2_with fail
    refine (copy_any aS nR cS S w4 (by omega) S2.out.iv).mono ?_
    rintro e w5 ⟨aS', cS', rfl, rs, hb⟩
    have s3 := hb.size
    have P3 : Hid (IVb wc.heap.size w5 aP nO O) := P2.out.below hb (Nat.le_trans s1 s2)
    have B3 : Hid (Below w2.heap.size w2 w5) := B2.out.trans (hb.mono (Nat.le_trans s0 (Nat.le_trans s1 s2)))
    have Z3 : Hid (IVb w2.heap.size w5 aZ nZ Z) := Z2.out.below hb (Nat.le_trans s0 (Nat.le_trans s1 s2))
    have R3 : Hid (IVb w2.heap.size w5 aR nR R) := R2.out.below hb (Nat.le_trans s0 (Nat.le_trans s1 s2))
    have J3 : Hid (IVb w2.heap.size w5 aJ nJ J) := J2.out.below hb (Nat.le_trans s0 (Nat.le_trans s1 s2))
    have rz3 : Hid (RowI w5 aZ' nZ Z wc.heap.size w3.heap.size) := rz2.out.same (fun k _ hk => hb.block k (by omega))
    have rr3 : Hid (RowI w5 aR' nR R w3.heap.size w4.heap.size) := rr2.out.same (fun k _ hk => hb.block k hk)
    have rs3 : Hid (RowI w5 aS' nR S w4.heap.size w5.heap.size) := rs
    clear rs hb P2 B2 Z2 R2 S2 J2 rz2 rr2
    go_wp2_with fail
    refine (new_L aP nO cP O aZ' nZ cZ' Z aR' nR cR' R aS' cS' S wc.heap.size w3.heap.size w4.heap.size w5.heap.size w5 z1 P3.out.iv rz3.out rr3.out rs3.out ⟨s1, s2, s3, Nat.le_refl _⟩).mono ?_
    rintro e w6 ⟨L, ⟨rfl, rfl, rfl, rfl, rfl, rfl⟩, hl, rfl, hs, hb⟩
    have LO : Hid (L.l0 = wc.heap.size ∧ L.l1 = w3.heap.size ∧ L.l2 = w4.heap.size ∧ L.l3 = w5.heap.size ∧ L.gO = w5.heap.size) := hl
    have hle : Hid (w2.heap.size ≤ wc.heap.size ∧ wc.heap.size ≤ w4.heap.size ∧ w4.heap.size ≤ w5.heap.size) := ⟨s0, Nat.le_trans s1 s2, s3⟩
    have P4 : Hid (IVb wc.heap.size w6 aP L.nO L.O) := P3.out.below hb (by omega)
    have B4 : Hid (Below w2.heap.size w2 w6) := B3.out.trans (hb.mono (by omega))
    have Z4 : Hid (IVb w2.heap.size w6 aZ L.nZ L.Z) := Z3.out.below hb (by omega)
    have R4 : Hid (IVb w2.heap.size w6 aR L.nR L.R) := R3.out.below hb (by omega)
    have J4 : Hid (IVb w2.heap.size w6 aJ nJ J) := J3.out.below hb (by omega)
    have HS6 : Hid (SessT L w6 S []) := hs
    clear hl hs hb P3 B3 Z3 R3 J3 rz3 rr3 rs3 s0 s1 s2 s3
    have hlt6 : Hid (L.l3 ≤ L.gO ∧ L.gO < w6.heap.size) := HS6.out.lt
    go_wp2
    go_loopw [16] (fun i wx => ∃ k : Nat, k ≤ nJ ∧ i = .int .i64 k ∧ SessT L wx (runS L.wr J S k) (runT L.wr J k) ∧ Frm L L.gO w6 wx) (fun i _ => nJ - (intOf i).toNat)
    case atStart => exact ⟨0, Nat.zero_le _, rfl, HS6.out, Frm.refl _ _ _⟩
    case round =>
      obtain ⟨k, hk, rfl, hs, hf⟩ := hrel
      by_cases hlt : k < nJ
      · have hJr := Frm.ivb J4.out hf (by have := LO.out; have := hle.out; omega) (by have := LO.out; have := hle.out; omega)
        obtain ⟨bJ, oJ, rfl, _, cj⟩ := hJr k hlt
        have HSk : Hid (SessT L wr (runS L.wr J S k) (runT L.wr J k)) := hs
        have HFk : Hid (Frm L L.gO w6 wr) := hf
        have hlen := runT_len L.wr J k
        have DK : Hid (Dom1 L.nO L.nZ L.nR L.O L.Z L.R (J k)) := HD.out k hlt
        clear hJr hs hf
        obtain ⟨j, hj⟩ : ∃ j, j = J k := ⟨_, rfl⟩
        rw [← hj] at cj DK
        have EJ : Hid (j = J k) := hj
        clear hj
        go_wp2_with fail
        refine (zzReadZero_any HSk.out j DK.out (by omega) z1).mono ?_
        rintro e w7 ⟨rfl, q1, q2, q3⟩
        have Q1 : Hid (SessT L w7 (upd (runS L.wr J S k) j.toNat (L.wr j)) (addT (runT L.wr J k) (L.wr j))) := q1
        have Q2 : Hid (Frm L L.gO wr w7) := q2
        clear q1 q2 q3 hlen
        go_wp2
        go_roundw
        case rel =>
          refine ⟨k + 1, by omega, by go_num, ?_, HFk.out.trans Q2.out⟩
          have h1 := Q1.out
          rw [EJ.out] at h1
          exact h1
        case measure => simp [intOf]; omega
      · obtain rfl : k = nJ := by omega
        have HSk : Hid (SessT L wr (runS L.wr J S k) (runT L.wr J k)) := hs
        have HFk : Hid (Frm L L.gO w6 wr) := hf
        have hlen := runT_len L.wr J k
        have ltA : Hid (L.l3 ≤ L.gO ∧ L.gO < wr.heap.size) := hs.lt
        clear hs hf
        obtain ⟨wA, hwA⟩ : ∃ wA : World, wA = wr := ⟨_, rfl⟩
        subst hwA
        go_wp2_with fail
        refine (zzTargets_any HSk.out).mono ?_
        rintro e w7 ⟨⟨aT, cT, rfl, hiT, hbT⟩, rfl⟩
        have IT : Hid (IV w7 aT (runT L.wr J k).length (fun i => (runT L.wr J k).getD i 0)) := hiT
        clear hiT hbT
        go_wp2_with fail
        refine (copy_any aT _ cT _ w7 (by omega) IT.out).mono ?_
        rintro e w8 ⟨aF, cF, rfl, rf, hb⟩
        have RF8 : Hid (RowI w8 aF (runT L.wr J k).length (fun i => (runT L.wr J k).getD i 0) w7.heap.size w8.heap.size) := rf
        have HS8 : Hid (SessT L w8 (runS L.wr J S k) (runT L.wr J k)) := HSk.out.below hb
        have F8 : Hid (Frm L L.gO w6 w8) := HFk.out.trans (Frm.ofBelow hb (Nat.le_of_lt ltA.out.2))
        have s8 : Hid (w7.heap.size ≤ w8.heap.size) := hb.size
        clear rf hb HSk HFk IT
        go_wp2_with fail
        refine (zzSource_any HS8.out).mono ?_
        rintro e w9 ⟨rfl, rfl⟩
        go_wp2_with fail
        refine (copy_any L.aS L.nR L.cS (runS L.wr J S k) w9 (by omega) HS8.out.row.iv).mono ?_
        rintro e w10 ⟨aG, cG, rfl, rg, hb⟩
        have RG10 : Hid (RowI w10 aG L.nR (runS L.wr J S k) w9.heap.size w10.heap.size) := rg
        have RF10 : Hid (RowI w10 aF (runT L.wr J k).length (fun i => (runT L.wr J k).getD i 0) w7.heap.size w9.heap.size) := RF8.out.same (fun j _ hj => hb.block j hj)
        have HS10 : Hid (SessT L w10 (runS L.wr J S k) (runT L.wr J k)) := HS8.out.below hb
        have F10 : Hid (Frm L L.gO w6 w10) := F8.out.trans (Frm.ofBelow hb (by have := ltA.out; have := s8.out; omega))
        have s10 : Hid (w9.heap.size ≤ w10.heap.size) := hb.size
        clear rg hb RF8 HS8 F8
        obtain ⟨T, hT⟩ : ∃ T, T = runT L.wr J k := ⟨_, rfl⟩
        obtain ⟨Sn, hSn⟩ : ∃ Sn, Sn = runS L.wr J S k := ⟨_, rfl⟩
        have TM : Hid (∀ i, i < k → L.wr (J i) ∈ T) := by rw [hT]; exact fun i hi => runT_at L.wr J hi
        have SM : Hid (∀ i, i < k → Sn (J i).toNat = L.wr (J i)) := by rw [hSn]; exact runS_at L.wr J S k (fun i hi => (HD.out i hi).1)
        have ET : Hid (T = runT L.wr J k) := hT
        rw [← hT] at hlen
        rw [← hT] at RF10
        rw [← hT] at HS10
        rw [← hT]
        rw [← hSn] at RG10
        rw [← hSn] at HS10
        clear hT hSn
        go_wp2
        go_loopw [19] (fun i wx => ∃ m : Nat, m ≤ k ∧ i = .int .i64 m ∧ SessT L wx Sn T ∧ Frm L w10.heap.size w10 wx) (fun i _ => k - (intOf i).toNat)
        case atStart => exact ⟨0, Nat.zero_le _, rfl, HS10.out, Frm.refl _ _ _⟩
        case round =>
          obtain ⟨m, hm, rfl, hs, hf⟩ := hrel
          have hfr : Frm L L.gO w6 wr := F10.out.trans (hf.mono (by have := ltA.out; have := s8.out; have := s10.out; omega))
          by_cases hlt2 : m < k
          · have hJr := Frm.ivb J4.out hfr (by have := LO.out; have := hle.out; omega) (by have := LO.out; have := hle.out; omega)
            obtain ⟨bJ, oJ, rfl, _, cj⟩ := hJr m hlt2
            have HSk : Hid (SessT L wr Sn T) := hs
            have HFk : Hid (Frm L w10.heap.size w10 wr) := hf
            have DK : Hid (Dom1 L.nO L.nZ L.nR L.O L.Z L.R (J m)) := HD.out m hlt2
            have TK : Hid (L.wr (J m) ∈ T) := TM.out m hlt2
            have SK : Hid (Sn (J m).toNat = L.wr (J m)) := SM.out m hlt2
            clear hJr hs hf hfr
            obtain ⟨j, hj⟩ : ∃ j, j = J m := ⟨_, rfl⟩
            rw [← hj] at cj DK TK SK
            clear hj
            go_wp2_with fail
            refine (zzReadZero_any HSk.out j DK.out (by omega) z1).mono ?_
            rintro e w11 ⟨rfl, q1, q2, q3⟩
            have Q1 : Hid (SessT L w11 Sn T) := by
              rw [addT_old TK.out, ← SK.out, upd_self] at q1
              exact q1
            have Q2 : Hid (Frm L wr.heap.size wr w11) := q3 TK.out
            clear q1 q2 q3
            go_wp2
            go_roundw
            case rel => exact ⟨m + 1, by omega, by go_num, Q1.out, HFk.out.trans (Q2.out.mono HFk.out.2.2.2.1)⟩
            case measure => simp [intOf]; omega
          · obtain rfl : m = k := by omega
            have HSk : Hid (SessT L wr Sn T) := hs
            have HFk : Hid (Frm L L.gO w6 wr) := hfr
            have RFk : Hid (RowI wr aF T.length (fun i => T.getD i 0) w7.heap.size w9.heap.size) := Frm.row RF10.out hf s10.out (.inl (by have := ltA.out; omega))
            have RGk : Hid (RowI wr aG L.nR Sn w9.heap.size w10.heap.size) := Frm.row RG10.out hf (Nat.le_refl _) (.inl (by have := ltA.out; have := s8.out; omega))
            clear hs hf hfr RF10 RG10 HS10 F10
            go_wp2_with fail
            refine (zzTargets_any HSk.out).mono ?_
            rintro e w11 ⟨⟨aT2, cT2, rfl, hiT, hbT⟩, rfl⟩
            have IT : Hid (IV w11 aT2 T.length (fun i => T.getD i 0)) := hiT
            clear hiT hbT
            go_wp2_with fail
            refine (same_any aT2 aF T.length cT2 cF _ _ w11 (by omega) IT.out RFk.out.iv (fun _ _ => rfl)).mono ?_
            rintro e w12 ⟨rfl, q, hq⟩
            have HS12 : Hid (SessT L w12 Sn T) := by rw [hq]; exact HSk.out.keep (fun _ _ => rfl)
            have F12 : Hid (Frm L L.gO w6 w12) := by rw [hq]; exact HFk.out
            have RG12 : Hid (RowI w12 aG L.nR Sn w9.heap.size w10.heap.size) := by rw [hq]; exact RGk.out.same (fun _ _ _ => rfl)
            clear hq IT HSk HFk RFk RGk
            go_wp2_with fail
            refine (zzSource_any HS12.out).mono ?_
            rintro e w13 ⟨rfl, rfl⟩
            go_wp2_with fail
            refine (same_any L.aS aG L.nR L.cS cG Sn Sn w13 (by omega) HS12.out.row.iv RG12.out.iv (fun _ _ => rfl)).mono ?_
            rintro e w14 ⟨rfl, q, hq⟩
            have HS14 : Hid (SessT L w14 Sn T) := by rw [hq]; exact HS12.out.keep (fun _ _ => rfl)
            have F14 : Hid (Frm L L.gO w6 w14) := by rw [hq]; exact F12.out
            clear hq HS12 F12 RG12
            have J14 : Hid (IVb w2.heap.size w14 aJ m J) := Frm.ivb J4.out F14.out (by have := LO.out; have := hle.out; omega) (by have := LO.out; have := hle.out; omega)
            have Z14 : Hid (IVb w2.heap.size w14 aZ L.nZ L.Z) := Frm.ivb Z4.out F14.out (by have := LO.out; have := hle.out; omega) (by have := LO.out; have := hle.out; omega)
            have R14 : Hid (IVb w2.heap.size w14 aR L.nR L.R) := Frm.ivb R4.out F14.out (by have := LO.out; have := hle.out; omega) (by have := LO.out; have := hle.out; omega)
            have P14 : Hid (IVb wc.heap.size w14 aP L.nO L.O) := Frm.ivb P4.out F14.out (by have := LO.out; have := hle.out; omega) (by have := LO.out; have := hle.out; omega)
            have B14 : Hid (Below w2.heap.size w2 w14) := B4.out.trans (F14.out.below (by have := LO.out; have := hle.out; omega) (by have := LO.out; have := hle.out; omega))
            clear J4 Z4 R4 P4 B4 F14 HS6 hlt6 ltA s8 s10
            go_wp2
            go_loop [20] (fun i => ∃ p : Nat, p ≤ m ∧ i = .int .i64 p) (fun i => m - (intOf i).toNat)
            case atStart => exact ⟨0, Nat.zero_le _, rfl⟩
            case round =>
              obtain ⟨p, hp, rfl⟩ := hrel
              by_cases hlt3 : p < m
              · obtain ⟨bJ, oJ, rfl, _, cj⟩ := J14.out p hlt3
                obtain ⟨d1, d2, d3, d4, d5, d6, d7, d8⟩ := HD.out p hlt3
                have TK : L.wr (J p) ∈ T := TM.out p hlt3
                have SK := SM.out p hlt3
                have w0 : 0 ≤ L.wr (J p) := d7
                have w1' : L.wr (J p) < L.nO := d8
                obtain ⟨gS, haS, _, _, hOS⟩ := row_at HS14.out.row (j := (J p).toNat) (by omega)
                have cs := hOS.cell (J p).toNat (by omega)
                rw [SK] at cs
                have EA : Hid (L.aS = some ⟨gS, 0, none⟩) := haS
                have hix : T.idxOf (L.wr (J p)) < T.length := List.idxOf_lt_length_of_mem TK
                have hgx : T.getD (T.idxOf (L.wr (J p))) 0 = L.wr (J p) := getD_idxOf TK
                have HT0 : Hid (L.wr (J p) ∈ T) := TK
                clear d3 d4 d5 d6 d7 d8 SK hOS haS TK
                obtain ⟨x, hx⟩ : ∃ x, x = L.wr (J p) := ⟨_, rfl⟩
                rw [← hx] at w0 w1' cs hix hgx HT0
                clear hx
                obtain ⟨j, hj⟩ : ∃ j, j = J p := ⟨_, rfl⟩
                rw [← hj] at cj d1 d2 cs
                clear hj
                obtain ⟨ix, hi⟩ : ∃ ix, ix = T.idxOf x := ⟨_, rfl⟩
                rw [← hi] at hix hgx
                have EI : Hid (ix = T.idxOf x) := hi
                have HG : Hid (T.getD ix 0 = x) := hgx
                clear hi hgx
                go_wp2_with fail
                refine (zzSource_any HS14.out).mono ?_
                rintro e w15 ⟨he, rfl⟩
                rw [EA.out] at he
                subst he
                go_wp2_with fail
                refine (zzTargetOf_old HS14.out x HT0.out w0 (by omega)).mono ?_
                rintro e w16 ⟨he, rfl⟩
                rw [← EI.out] at he
                subst he
                go_wp2_with fail
                refine (zzTargets_any HS14.out).mono ?_
                rintro e w17 ⟨⟨aT3, cT3, rfl, hiT, hbT⟩, rfl⟩
                obtain ⟨bT, oT, rfl, _, ct⟩ := hiT ix hix
                dsimp only at ct
                rw [HG.out] at ct
                clear hiT hbT
                go_wp2
                go_round
                case rel => exact ⟨p + 1, by omega, by go_num⟩
                case measure => simp [intOf]; omega
              · obtain rfl : p = m := by omega
                obtain ⟨i0, hi, hz0, hz1, hz2⟩ := info_parts info4
                go_wp2_with (at_make; refine wpList_make_full _ rfl _ _ 26 rfl w14.heap.size 4 i0 (.bool false) 1 Try.underlying26 hi hz0 hz1 .i64 .i64 _ _ L.nO rfl rfl rfl rfl (by rw [hz2]; omega) (by unfold maxLen; omega) (Nat.le_refl _) ?_; intro w15 hown hgr)
                obtain ⟨C0, hO0, hC0⟩ := OwnBlk.ofOwns hown rfl
                have E0 : Hid (∀ y, y < L.nO → C0 y = .bool false) := fun y hy => by
                  have h1 := hC0 y (by omega)
                  rw [made4 L.nO y (by omega)] at h1
                  exact (Option.some.inj h1).symm
                rw [Nat.mul_one] at hO0
                have HO0 : Hid (OwnBlk w15 w14.heap.size 4 L.nO C0) := hO0
                have HB0 : Hid (Below w14.heap.size w14 w15) := (Below.refl _ _).grown hgr (Nat.le_refl _) (fun _ h => by cases h)
                have hw2 : Hid (w2.heap.size ≤ w14.heap.size) := B14.out.size
                have hwc : Hid (wc.heap.size ≤ w14.heap.size) := by
                  have h1 := hle.out
                  have h2 := HS14.out.lt
                  have h3 := LO.out
                  show wc.heap.size ≤ w14.heap.size
                  omega
                clear hi hz0 hz1 hz2 hO0 hC0 hown hgr
                go_wp2
                go_loopw [26, 27] (fun d i wx => ∃ (q : Nat) (C : Nat → Value), q ≤ p ∧ i = .int .i64 q ∧ d = .int .i64 (runT L.wr J q).length ∧ OwnBlk wx w14.heap.size 4 L.nO C ∧ (∀ y, y < L.nO → C y = .bool (decide ((y : Int) ∈ runT L.wr J q))) ∧ Below w14.heap.size w14 wx) (fun _ i _ => p - (intOf i).toNat)
                case atStart => exact ⟨0, C0, Nat.zero_le _, rfl, rfl, HO0.out, fun y hy => by rw [E0.out y hy]; rfl, HB0.out⟩
                case round =>
                  obtain ⟨q, C, hq, rfl, rfl, hO, hC, hB⟩ := hrel
                  by_cases hlt4 : q < p
                  · obtain ⟨bJ, oJ, rfl, _, cj⟩ := (J14.out.below hB hw2.out) q hlt4
                    obtain ⟨d1, d2, d3, d4, d5, d6, d7, d8⟩ := HD.out q hlt4
                    obtain ⟨bR, oR, rfl, _, cr⟩ := (R14.out.below hB hw2.out) (J q).toNat (by omega)
                    obtain ⟨bP, oP, rfl, _, cp⟩ := (P14.out.below hB hwc.out) (L.R (J q).toNat).toNat (by omega)
                    obtain ⟨bZ, oZ, rfl, _, cz⟩ := (Z14.out.below hB hw2.out) (L.O (L.R (J q).toNat).toNat).toNat (by omega)
                    have ex : Hid (L.wr (J q) = L.Z (L.O (L.R (J q).toNat).toNat).toNat) := rfl
                    obtain ⟨x, hx⟩ : ∃ x, x = L.Z (L.O (L.R (J q).toNat).toNat).toNat := ⟨_, rfl⟩
                    rw [← hx] at cz d7 d8 ex
                    clear hx
                    obtain ⟨ob, hob⟩ : ∃ ob, ob = L.O (L.R (J q).toNat).toNat := ⟨_, rfl⟩
                    rw [← hob] at cp cz d5 d6
                    clear hob
                    obtain ⟨r, hr⟩ : ∃ r, r = L.R (J q).toNat := ⟨_, rfl⟩
                    rw [← hr] at cr cp d3 d4
                    clear hr
                    obtain ⟨j, hj⟩ : ∃ j, j = J q := ⟨_, rfl⟩
                    rw [← hj] at cj cr d1 d2
                    have EJ : Hid (j = J q) := hj
                    clear hj
                    have cx := hO.cell x.toNat (by omega)
                    have fx := hO.free x.toNat
                    have hxx : ((x.toNat : Nat) : Int) = x := by omega
                    rw [hC x.toNat (by omega), hxx] at cx
                    have hlq := runT_len L.wr J q
                    have HO : Hid (OwnBlk wr w14.heap.size 4 L.nO C) := hO
                    have HC : Hid (∀ y, y < L.nO → C y = .bool (decide ((y : Int) ∈ runT L.wr J q))) := hC
                    have HB : Hid (Below w14.heap.size w14 wr) := hB
                    clear hO hC hB hxx
                    by_cases hxT : x ∈ runT L.wr J q
                    · have hd : decide (x ∈ runT L.wr J q) = true := decide_eq_true hxT
                      rw [hd] at cx
                      have HK : Hid (runT L.wr J (q + 1) = runT L.wr J q) := runT_keep (by rw [ex.out]; exact hxT)
                      clear hd hxT
                      generalize hLn : (runT L.wr J q).length = len at *
                      go_wp2
                      go_roundw
                      case rel =>
                        refine ⟨q + 1, C, by omega, by go_num, by rw [HK.out, hLn], HO.out, ?_, HB.out⟩
                        rw [HK.out]; exact HC.out
                      case measure => simp [intOf]; omega
                    · have hd : decide (x ∈ runT L.wr J q) = false := decide_eq_false hxT
                      rw [hd] at cx
                      have HK : Hid (runT L.wr J (q + 1) = runT L.wr J q ++ [x]) := by
                        have := runT_push (W := L.wr) (J := J) (k := q) (by rw [ex.out]; exact hxT)
                        rw [ex.out] at this
                        exact this
                      clear hd hxT
                      obtain ⟨len, hLn⟩ : ∃ len, len = (runT L.wr J q).length := ⟨_, rfl⟩
                      rw [← hLn] at hlq
                      rw [← hLn]
                      have HLn : Hid (len = (runT L.wr J q).length) := hLn
                      clear hLn
                      go_wp2
                      go_roundw
                      case rel =>
                        refine ⟨q + 1, upd C x.toNat (.bool true), by omega, by go_num, ?_, HO.out.set _ _, fun y hy => ?_, HB.out.setCell (Nat.le_refl _) _⟩
                        · rw [HK.out, List.length_append, ← HLn.out]; go_num
                        · rw [HK.out]
                          by_cases e : y = x.toNat
                          · subst e
                            rw [upd_at]
                            have : ((x.toNat : Nat) : Int) = x := by omega
                            simp [this]
                          · rw [upd_ne _ _ _ e, HC.out y hy]
                            have : ¬ ((y : Int) = x) := by omega
                            simp [this]
                      case measure => simp [intOf]; omega
                  · obtain rfl : q = p := by omega
                    have HB : Hid (Below w14.heap.size w14 wr) := hB
                    clear hO hC hB
                    rw [ET.out]
                    go_wp2
                    go_ret
                    exact ⟨by simp, B14.out.trans (HB.out.mono hw2.out)⟩
end Go.Proofs.Qxb6616519a
