/-
  beginState (5), ZZbeginState (4): a header of six bytes in a new row.
-/
import Derived.Test.Qxb6616350aRows
import Derived.WalkKit
import Derived.WalkSpells
import Derived.WalkLawsBesides
import Derived.ArgAppend
import Derived.Lib.SlBytesConst
namespace Go.Proofs.Qxb6616350a
open Go.RowKit

/-- Block g is a row of m cells of bytes, not frozen, cell j holds C j. -/
def OwnB (w : World) (g : Nat) (m : Nat) (C : Nat → Int) : Prop :=
  ∃ cur : Array Value, w.heap[g]? = some (.cells cur 5 (0, 0)) ∧ cur.size = m ∧ ∀ j, j < 6 → cur[j]? = some (.int .u8 (C j))

/-- The header's bytes. -/
def hdr (k : Int) (j : Nat) : Int := if j = 0 then 83 else if j = 1 then 66 else if j = 2 then 75 else if j = 3 then 84 else if j = 4 then k else 1

theorem info5 : (Try.prog.info? 5).map (fun i => (i.zero, i.size, i.bytes)) = some (some (.int .u8 0), 1, 1) := by kernel_rfl

/-- An append whose run is known. -/
theorem wpList_append_run {P : Program} (w : World) {ops : Array Oper} {rest : List Oper} {o : Oper} {a : Act} {Q : Exit → Act → World → Prop}
    (hg : o.guard = none) (s x : Operand) (t tx : TypeId) (hop : o.op = Op.call { callee := Callee.builtin Builtin.append, args := #[s, x], argTypes := #[t, tx] })
    (vs vx v' : Value) (w' : World) (hs : a.eval s = vs) (hx : a.eval x = vx) (hrun : (Builtin.append_ #[t, tx] o.type #[vs, vx]).run P w = .ok v' w')
    (hK : wpList P ops Q rest (a.put o.dst v') w') : wpList P ops Q (o :: rest) a w := by
  refine wpList_plain hg fun K hK' => ?_
  unfold Oper.wp
  simp [execOp, hop, resolve, invoke, builtin, hs, hx, hrun, Result.andThen]
  exact hK' _ _ hK

/-- The two rows that the statement lays ahead of its append. -/
def laid2 (k : Int) (w : World) : World :=
  (w.alloc (.cells #[.int .u8 83, .int .u8 66, .int .u8 75, .int .u8 84] 5 (4, 5))).alloc (.cells #[.int .u8 k, .int .u8 1] 5)

theorem add0 (b j : Nat) : (⟨b, 0, none⟩ : Addr).add j = ⟨b, j, none⟩ := by unfold Addr.add; split <;> simp_all

theorem append_hdr (k : Int) (w : World) :
    ∃ g cap w', (Builtin.append_ #[22, 22] 22 #[.slice (some ⟨w.heap.size, 0, none⟩) 4 4, .slice (some ⟨w.heap.size + 1, 0, none⟩) 2 2]).run Try.prog (laid2 k w) = .ok (.slice (some ⟨g, 0, none⟩) 6 cap) w' ∧
      OwnB w' g cap (hdr k) ∧ 6 ≤ cap ∧ w.heap.size ≤ g ∧ Below w.heap.size w w' := by
  obtain ⟨i0, hi, hz0, hz1, hz2⟩ := info_parts info5
  have hb0 : Below w.heap.size w (laid2 k w) := ((Below.refl _ _).alloc (Nat.le_refl _) _).alloc (by simp) _
  have hsz : (laid2 k w).heap.size = w.heap.size + 2 := by simp [laid2]
  have r0 : (laid2 k w).heap[w.heap.size]? = some (.cells #[.int .u8 83, .int .u8 66, .int .u8 75, .int .u8 84] 5 (4, 5)) := by
    show ((w.heap.push _).push _)[w.heap.size]? = _
    rw [Array.getElem?_push, if_neg (by simp), Array.getElem?_push, if_pos rfl]
  have r1 : (laid2 k w).heap[w.heap.size + 1]? = some (.cells #[.int .u8 k, .int .u8 1] 5) := by
    show ((w.heap.push _).push _)[w.heap.size + 1]? = _
    rw [Array.getElem?_push, if_pos (by simp)]
  obtain ⟨v', w', hrun, hown, hgr⟩ := run_append_arg_grows (P := Try.prog) (laid2 k w) 22 22 5 i0 (.int .u8 0) 1 1 Try.underlying22 hi hz0 hz1 hz2 rfl (by decide)
    ⟨w.heap.size, 0, none⟩ 4 4 [.int .u8 83, .int .u8 66, .int .u8 75, .int .u8 84] rfl
    (fun j u hu => by rw [add0, cell_of_row _ _ j _ 5 (4, 5) r0]; simpa using hu)
    ⟨w.heap.size + 1, 0, none⟩ 2 2 [.int .u8 k, .int .u8 1] rfl
    (fun j u hu => by rw [add0, cell_of_row _ _ j _ 5 (0, 0) r1]; simpa using hu) (by decide) (by decide) (by decide)
  rcases hown.2 with ⟨_, h6⟩ | ⟨g, cap, cur, rfl, hbase, hg, hle, _, hcs, htake⟩
  · cases h6
  · refine ⟨g, cap, w', hrun, ⟨cur, hg, by omega, fun j hj => ?_⟩, hle, by omega, hb0.trans ⟨hgr.os, hgr.tape, hgr.output, hgr.size, fun i hi => hgr.block i (by omega) (by simp)⟩⟩
    have h1 : cur[j]? = ([.int .u8 83, .int .u8 66, .int .u8 75, .int .u8 84] ++ [.int .u8 k, .int .u8 1] : List Value)[j]? := by
      rw [← htake, List.getElem?_take, if_pos (by omega)]
      simp
    rw [h1]
    rcases (by omega : j = 0 ∨ j = 1 ∨ j = 2 ∨ j = 3 ∨ j = 4 ∨ j = 5) with rfl | rfl | rfl | rfl | rfl | rfl <;> rfl

set_option maxHeartbeats 400000 in
theorem begin_any (k : Int) (w : World) :
    Calls Try.prog 5 #[.int .u8 k] w fun e w' => ∃ g cap, e = .returned (.slice (some ⟨g, 0, none⟩) 6 cap) ∧ OwnB w' g cap (hdr k) ∧ 6 ≤ cap ∧ w.heap.size ≤ g ∧ Below w.heap.size w w' := by
  have kc := fun (w : World) (C : Array Value) (n c : Nat) => Lib.run_convert_bytes_const (P := Try.prog) w 22 5 C n c Try.underlying22 Try.underlying5
  obtain ⟨g, cap, w', hrun, q1, q2, q3, q4⟩ := append_hdr k w
  have HR : Hid _ := hrun
  have Q1 : Hid (OwnB w' g cap (hdr k)) := q1
  have Q4 : Hid (Below w.heap.size w w') := q4
  clear hrun q1 q4
  go_enter Try.func5, Try.ntmps5
  go_wp2_with (at_builtin; refine wpList_append_run _ rfl _ _ 22 22 rfl _ _ _ _ rfl rfl HR.out ?_)
  go_ret
  exact ⟨g, cap, rfl, Q1.out, q2, q3, Q4.out⟩

theorem zzbegin_any (k : Int) (w : World) :
    Calls Try.prog 4 #[.int .u8 k] w fun e w' => ∃ g cap, e = .returned (.slice (some ⟨g, 0, none⟩) 6 cap) ∧ OwnB w' g cap (hdr k) ∧ 6 ≤ cap ∧ w.heap.size ≤ g ∧ Below w.heap.size w w' := by
  go_enter Try.func4, Try.ntmps4
  go_wp2_with fail
  refine (begin_any k w).mono ?_
  rintro e w' ⟨g, cap, rfl, q1, q2, q3, q4⟩
  have Q1 : Hid (OwnB w' g cap (hdr k)) := q1
  have Q4 : Hid (Below w.heap.size w w') := q4
  clear q1 q4
  go_wp2
  go_ret
  exact ⟨g, cap, rfl, Q1.out, q2, q3, Q4.out⟩
end Go.Proofs.Qxb6616350a
