/-
  The walks of State.String (4), of the law (3), and zzIsNameOf's contract at a true name. strconv.Itoa's contract comes in as a hypothesis ('ItoaSays'); the shelf pays it.
-/
import Derived.Test.Qxb6617697aDoorName
import Derived.Test.Qxb6617697aDoorPlain
import Derived.Sort.Grow
import Derived.Lib.LaidTab
import Derived.Lib.Itoa
namespace Go.Proofs.Qxb6617697aDoor
open Go.RowKit

/-- The name as a string's bytes. -/
def nmB (n : Int) : ByteArray := ⟨(nameOf n).toArray⟩

theorem nmB_toList (n : Int) : (nmB n).toList = nameOf n := by unfold nmB; exact ByteArray.toList_mk _

/-- The name of the table, as the row lists it. -/
def powName : String := Rows.fnStringIsACanonicalOneToOneNameRow.named.headD ""

def Tab (w : World) : Prop := Lib.TabIs Tryd.prog w powName .u64 Lib.pow10Tab

def ItoaSays : Prop := ∀ (n : Int) (_h0 : -9223372036854775808 ≤ n) (_h1 : n ≤ 9223372036854775807) (w : World) (_htab : Tab w),
    Calls Tryd.prog 6 #[.int .i64 n] w fun e w' => e = .returned (.string ⟨(Lib.itoa n).toArray⟩) ∧ ∃ k os, w' = Sort.grow (w.drewN k) os

theorem cat3 (a l b : List UInt8) : (⟨a.toArray⟩ : ByteArray) ++ ⟨l.toArray⟩ ++ ⟨b.toArray⟩ = ⟨(a ++ l ++ b).toArray⟩ := by
  apply ByteArray.ext
  simp

theorem ret_str {a b : ByteArray} (h : a = b) : Ending.returned (.string a) = .returned (.string b) := by rw [h]

theorem below_g (w : World) (k : Nat) (os : Array Obj) : Below w.heap.size w (Sort.grow (w.drewN k) os) :=
  ⟨rfl, rfl, rfl, by rw [Sort.size_grow]; exact Nat.le_add_right _ _, fun _ hi => Sort.heap_grow_old (w.drewN k) os hi⟩

/-- State.String: the state's name. -/
theorem string_any (hI : ItoaSays) (n : Int) (h0 : -9223372036854775808 ≤ n) (h1 : n ≤ 9223372036854775807) (w : World) (htab : Tab w) :
    Calls Tryd.prog 4 #[.int .i64 n] w fun e w' => e = .returned (.string (nmB n)) ∧ Below w.heap.size w w' := by
  by_cases e0 : n = 0
  · subst e0
    go_enter Tryd.func4, Tryd.ntmps4
    go_wp2
    go_ret
    exact ⟨rfl, Below.refl _ _⟩
  by_cases e1 : n = 1
  · subst e1
    go_enter Tryd.func4, Tryd.ntmps4
    go_wp2
    go_ret
    exact ⟨rfl, Below.refl _ _⟩
  by_cases e2 : n = 2
  · subst e2
    go_enter Tryd.func4, Tryd.ntmps4
    go_wp2
    go_ret
    exact ⟨rfl, Below.refl _ _⟩
  have HI : Hid (Calls Tryd.prog 6 #[.int .i64 n] w fun e w' => e = .returned (.string ⟨(Lib.itoa n).toArray⟩) ∧ ∃ k os, w' = Sort.grow (w.drewN k) os) := hI n h0 h1 w htab
  have hlen : (⟨(Lib.itoa n).toArray⟩ : ByteArray).size ≤ 21 := by
    show (Lib.itoa n).toArray.size ≤ 21
    rw [List.size_toArray]
    unfold Lib.itoa
    have hn : ∀ u : Nat, u ≤ 9223372036854775808 → (Lib.decDigits u).length ≤ 20 := fun u hu => by
      rw [Lib.decDigits_length]
      exact nDigits_le u (by omega)
    split
    · have := hn n.natAbs (by omega)
      simp only [List.length_cons]
      omega
    · have := hn n.toNat (by omega)
      omega
  have hnm : nmB n = (⟨[83, 116, 97, 116, 101, 40].toArray⟩ : ByteArray) ++ ⟨(Lib.itoa n).toArray⟩ ++ ⟨[41].toArray⟩ := by
    rw [cat3]
    unfold nmB nameOf
    rw [if_neg e0, if_neg e1, if_neg e2]
  have HN : Hid (nmB n = (⟨[83, 116, 97, 116, 101, 40].toArray⟩ : ByteArray) ++ ⟨(Lib.itoa n).toArray⟩ ++ ⟨[41].toArray⟩) := hnm
  have g0 : (n == 0) = false := by simpa using e0
  have g1 : (n == 1) = false := by simpa using e1
  have g2 : (n == 2) = false := by simpa using e2
  clear hnm hI htab e0 e1 e2
  generalize (⟨(Lib.itoa n).toArray⟩ : ByteArray) = x at *
  go_enter Tryd.func4, Tryd.ntmps4
  go_wp2_with (go_at_call 6; refine (HI.out).mono ?_; rintro e w' ⟨rfl, k, os, rfl⟩)
  go_ret
  exact ⟨ret_str HN.out.symm, below_g _ _ _⟩

theorem ext_list (l : List UInt8) (a b : Nat) : (⟨l.toArray⟩ : ByteArray).extract a b = ⟨((l.drop a).take (b - a)).toArray⟩ := by
  apply ByteArray.ext
  simp [ByteArray.data_extract]

theorem size_list (l : List UInt8) : (⟨l.toArray⟩ : ByteArray).size = l.length := by
  show l.toArray.size = _
  simp

theorem get_list (l : List UInt8) (i : Nat) (h : i < (⟨l.toArray⟩ : ByteArray).size) : (⟨l.toArray⟩ : ByteArray)[i] = l[i]'(by rwa [size_list] at h) := rfl

theorem digs_of (u : Nat) (hu : u ≤ 9223372036854775808) : Digs ⟨(Lib.decDigits u).toArray⟩ (fun k => (part u k : Int)) := by
  intro k h
  have hk : k < (Lib.decDigits u).length := by rwa [size_list] at h
  have hk' : k < Lib.nDigits u := by rwa [Lib.decDigits_length] at hk
  rw [get_list]
  have h1 := digit_lo u k hk
  have h2 := part_step u k hk'
  have h3 := part_le u (k + 1)
  have h4 : ((Lib.decDigits u)[k]).toNat = 48 + u / 10 ^ (Lib.nDigits u - 1 - k) % 10 := by rw [decDigits_get u k hk, dg_toNat]
  rw [h4]
  rw [h4] at h1
  generalize u / 10 ^ (Lib.nDigits u - 1 - k) % 10 = dgt at *
  show _ ∧ _ ∧ 0 ≤ (part u k : Int) ∧ (part u k : Int) * 10 + _ ≤ _ ∧ (part u (k + 1) : Int) = (part u k : Int) * 10 + _
  refine ⟨by omega, by omega, by omega, by omega, by omega⟩

theorem name_facts (l : List UInt8) (h1 : 1 ≤ l.length) (h2 : l.length ≤ 50) :
    let t : ByteArray := ⟨([83, 116, 97, 116, 101, 40] ++ l ++ [41]).toArray⟩
    t.size ≤ 100 ∧ 8 ≤ t.size ∧ (t.toList == [99, 108, 111, 115, 101, 100]) = false ∧ (t.toList == [111, 112, 101, 110]) = false ∧ (t.toList == [114, 101, 99, 111, 118, 101, 114, 105, 110, 103]) = false ∧
      (t.extract 0 6).toList = [83, 116, 97, 116, 101, 40] ∧ (∀ h : t.size - 1 < t.size, (t[t.size - 1]'h).toNat = 41) ∧ t.extract 6 (t.size - 1) = ⟨l.toArray⟩ := by
  have hsz : (⟨([83, 116, 97, 116, 101, 40] ++ l ++ [41]).toArray⟩ : ByteArray).size = l.length + 7 := by rw [size_list]; simp
  refine ⟨by omega, by omega, ?_, ?_, ?_, ?_, ?_, ?_⟩
  · rw [ByteArray.toList_mk]; simp
  · rw [ByteArray.toList_mk]; simp
  · rw [ByteArray.toList_mk]; simp
  · rw [ext_list, ByteArray.toList_mk]; simp
  · intro h
    rw [get_list]
    have : ([83, 116, 97, 116, 101, 40] ++ l ++ [41])[(⟨([83, 116, 97, 116, 101, 40] ++ l ++ [41]).toArray⟩ : ByteArray).size - 1]? = some 41 := by
      rw [hsz, List.getElem?_append_right (by simp)]
      simp
    rw [List.getElem?_eq_some_iff] at this
    obtain ⟨_, e⟩ := this
    rw [e]
    decide
  · rw [ext_list, hsz]
    have e : ([83, 116, 97, 116, 101, 40] ++ l ++ [41] : List UInt8).drop 6 = l ++ [41] := by simp
    rw [e]
    have e2 : l.length + 7 - 1 - 6 = l.length := by omega
    rw [e2, List.take_left]

/-- zzIsNameOf answers true at the true name. -/
theorem isName_any (n : Int) (h0 : -9223372036854775808 ≤ n) (h1 : n ≤ 9223372036854775807) (w : World) :
    Calls Tryd.prog 5 #[.string (nmB n), .int .i64 n] w fun e w' => e = .returned (.bool true) ∧ w' = w := by
  by_cases e0 : n = 0
  · subst e0
    have e : nmB 0 = ⟨#[99, 108, 111, 115, 101, 100]⟩ := rfl
    rw [e]
    clear e
    go_enter Tryd.func5, Tryd.ntmps5
    go_wp2
    go_ret
    exact ⟨rfl, rfl⟩
  by_cases e1 : n = 1
  · subst e1
    have e : nmB 1 = ⟨#[111, 112, 101, 110]⟩ := rfl
    rw [e]
    clear e
    go_enter Tryd.func5, Tryd.ntmps5
    go_wp2
    go_ret
    exact ⟨rfl, rfl⟩
  by_cases e2 : n = 2
  · subst e2
    have e : nmB 2 = ⟨#[114, 101, 99, 111, 118, 101, 114, 105, 110, 103]⟩ := rfl
    rw [e]
    clear e
    go_enter Tryd.func5, Tryd.ntmps5
    go_wp2
    go_ret
    exact ⟨rfl, rfl⟩
  have hnm : nmB n = ⟨([83, 116, 97, 116, 101, 40] ++ Lib.itoa n ++ [41]).toArray⟩ := by
    unfold nmB nameOf
    rw [if_neg e0, if_neg e1, if_neg e2]
  have hn : ∀ u : Nat, u ≤ 9223372036854775808 → (Lib.decDigits u).length ≤ 20 ∧ 1 ≤ (Lib.decDigits u).length := fun u hu => by
    rw [Lib.decDigits_length]
    exact ⟨nDigits_le u (by omega), Lib.nDigits_pos u⟩
  by_cases hneg : n < 0
  · have hi : Lib.itoa n = 45 :: Lib.decDigits n.natAbs := by unfold Lib.itoa; rw [if_pos hneg]
    have hu := hn n.natAbs (by omega)
    have hpos : 0 < (⟨(Lib.decDigits n.natAbs).toArray⟩ : ByteArray).size := by rw [size_list]; omega
    have hfd := first_digit n.natAbs (by omega) (by omega)
    obtain ⟨f1, f2, f3, f4, f5, f6, f7, f8⟩ := name_facts (Lib.itoa n) (by rw [hi]; simp) (by rw [hi]; simp only [List.length_cons]; omega)
    rw [hnm]
    refine name_neg _ ⟨(Lib.itoa n).toArray⟩ ⟨(Lib.decDigits n.natAbs).toArray⟩ n (fun k => (part n.natAbs k : Int)) w f1 f2 f3 f4 f5 f6 (f7 _) f8 ?_ ?_ ?_ hpos ?_ ?_ ?_ hneg h0 ?_ (digs_of _ (by omega)) ?_
    · rw [size_list, hi]; simp
    · rw [get_list]; simp [hi]
    · rw [ext_list, size_list, hi]; simp
    · rw [size_list]; omega
    · rw [get_list]; omega
    · rw [ByteArray.toList_mk, beq_eq_false_iff_ne]
      intro e
      have : ((Lib.decDigits n.natAbs)[0]'(by omega)) = 48 := by simp [e]
      rw [this] at hfd
      exact absurd hfd (by decide)
    · show ((part n.natAbs 0 : Nat) : Int) = 0
      rw [part_zero]; rfl
    · show ((part n.natAbs _ : Nat) : Int) = - n
      rw [size_list, Lib.decDigits_length, part_all]; omega
  · have hi : Lib.itoa n = Lib.decDigits n.toNat := by unfold Lib.itoa; rw [if_neg hneg]
    have hu := hn n.toNat (by omega)
    have hpos : 0 < (⟨(Lib.decDigits n.toNat).toArray⟩ : ByteArray).size := by rw [size_list]; omega
    have hfd := first_digit n.toNat (by omega) (by omega)
    obtain ⟨f1, f2, f3, f4, f5, f6, f7, f8⟩ := name_facts (Lib.itoa n) (by rw [hi]; omega) (by rw [hi]; omega)
    rw [hi] at f8
    rw [hnm]
    rw [hi] at f1 f2 f3 f4 f5 f6 f7 ⊢
    refine name_pos _ ⟨(Lib.decDigits n.toNat).toArray⟩ n (fun k => (part n.toNat k : Int)) w f1 f2 f3 f4 f5 f6 (f7 _) f8 hpos ?_ ?_ ?_ (by omega) h1 ?_ (digs_of _ (by omega)) ?_
    · rw [size_list]; omega
    · rw [get_list]; omega
    · rw [get_list]; omega
    · show ((part n.toNat 0 : Nat) : Int) = 0
      rw [part_zero]; rfl
    · show ((part n.toNat _ : Nat) : Int) = n
      rw [size_list, Lib.decDigits_length, part_all]; omega

theorem tab_below {w w' : World} (h : Below w.heap.size w w') (hz : 0 < w.heap.size) (ht : Tab w) : Tab w' :=
  var?_below h (show Tryd.prog.globalNamed powName = some 0 by kernel_rfl) (by omega) ht

/-- THE LAW: true. -/
theorem law_any (hI : ItoaSays) (a b : Int) (ha0 : -9223372036854775808 ≤ a) (ha1 : a ≤ 9223372036854775807) (hb0 : -9223372036854775808 ≤ b) (hb1 : b ≤ 9223372036854775807)
    (w : World) (hz : 0 < w.heap.size) (htab : Tab w) :
    Calls Tryd.prog 3 #[.int .i64 a, .int .i64 b] w fun e w' => e = .returned (.bool true) ∧ Below w.heap.size w w' := by
  have heq : ((nmB a).toList == (nmB b).toList) = (a == b) := by rw [nmB_toList, nmB_toList, nameOf_beq]
  have HT : Hid (Tab w) := htab
  have HI : Hid ItoaSays := hI
  clear htab hI
  go_enter Tryd.func3, Tryd.ntmps3
  go_wp2_with fail
  refine (string_any HI.out a ha0 ha1 w HT.out).mono ?_
  rintro e w1 ⟨rfl, hb⟩
  have ht1 : Hid (Tab w1) := tab_below hb hz HT.out
  have HB1 : Hid (Below w.heap.size w w1) := hb
  have hz1 := hb.size
  clear hb
  go_wp2_with fail
  refine (string_any HI.out b hb0 hb1 w1 ht1.out).mono ?_
  rintro e w2 ⟨rfl, hb⟩
  have HB2 : Hid (Below w1.heap.size w1 w2) := hb
  clear hb
  go_wp2_with fail
  refine (isName_any a ha0 ha1 w2).mono ?_
  rintro e w3 ⟨rfl, rfl⟩
  go_wp2_with fail
  refine (isName_any b hb0 hb1 _).mono ?_
  rintro e w4 ⟨rfl, rfl⟩
  go_wp2
  go_ret
  exact ⟨rfl, HB1.out.trans (HB2.out.mono hz1)⟩
end Go.Proofs.Qxb6617697aDoor
