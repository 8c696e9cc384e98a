/-
  THE CALLEES THAT REFUSE: active, BeginSubtransaction.
-/
import Derived.Test.YbulkxzmFmtErrs
namespace Go.Proofs.YbulkxzmFmt
open Go.RowKit Go.Maps Go.Extern.Stop Go.Stop Go.Extern
set_option linter.unusedVariables false
variable {N : Nat} {w0 : World} {L b : Nat} {st : LT}

set_option maxHeartbeats 1600000 in
set_option maxRecDepth 100000 in
theorem active_no (F : Interp) (w : World) (hF : F.answers w.tape) (h : State N w0 w L b st) (nm : ByteArray) (hnm : nm.size ≤ maxLen) (a : Addr) (hs : Sent w 1 a) (hno : Maps.has st.D (.string nm.data.toList) = false) :
    Calls Ybaf.prog 17 #[.pointer (some ⟨L, 0, none⟩), .string nm] w fun e w' => ∃ v, e = .returned (.tuple #[.pointer none, v]) ∧ Wraps w' a v ∧ Below w.heap.size w w' := by
  have HC : Hid (Calls Ybaf.prog 20 #[.pointer (some ⟨L, 0, none⟩), .string nm] w fun e w' => ∃ v, e = .returned (.tuple #[.pointer none, v]) ∧ Wraps w' a v ∧ Below w.heap.size w w') := known_no F w hF h nm hnm a hs hno
  clear h hs hno hF
  go_enter Ybaf.func17, Ybaf.ntmps17
  go_wp2_with fail
  refine HC.out.mono ?_
  rintro e w' ⟨v, rfl, hw, hb⟩
  obtain ⟨X, rfl, hX⟩ := hw
  have HW : Hid (Wraps w' a (.iface 153 (.pointer (some ⟨X, 0, none⟩))) ∧ Below w.heap.size w w') := ⟨⟨X, rfl, hX⟩, hb⟩
  clear hX hb
  go_wp2
  go_ret2
  exact ⟨_, rfl, HW.out⟩

set_option maxHeartbeats 1600000 in
set_option maxRecDepth 100000 in
theorem active_not (F : Interp) (w : World) (hF : F.answers w.tape) (h : State N w0 w L b st) (nm : ByteArray) (hnm : nm.size ≤ maxLen) (a : Addr) (hs : Sent w 2 a) (P : Nat) (rp : Tx) (hP : st.S P = some rp) (hst : rp.state ≠ 0) (hat : st.D.atKey (.string nm.data.toList) .nil = .lit (.int .i64 P)) (hyes : Maps.has st.D (.string nm.data.toList) = true) :
    Calls Ybaf.prog 17 #[.pointer (some ⟨L, 0, none⟩), .string nm] w fun e w' => ∃ v, e = .returned (.tuple #[.pointer none, v]) ∧ Wraps w' a v ∧ Below w.heap.size w w' := by
  have hc1 := h.cellT hP (j := 1) rfl
  have HC : Hid (Calls Ybaf.prog 20 #[.pointer (some ⟨L, 0, none⟩), .string nm] w fun e w' => e = .returned (.tuple #[.pointer (some ⟨P, 0, none⟩), .nilIface]) ∧ w' = w) := known_ok w h nm hnm P hat hyes
  have HD : Hid (Calls Ybaf.prog 26 #[.string nm] w fun e w' => ∃ v, e = .returned v ∧ Wraps w' a v ∧ Below w.heap.size w w') := notActive_any F w hF nm a hs
  clear h hs hat hyes hP hF
  go_enter Ybaf.func17, Ybaf.ntmps17
  go_wp2_with fail
  refine HC.out.mono ?_
  rintro e w' ⟨rfl, rfl⟩
  go_wp2_with fail
  refine HD.out.mono ?_
  rintro e w2 ⟨v, rfl, hw, hb⟩
  obtain ⟨X, rfl, hX⟩ := hw
  have HW : Hid (Wraps w2 a (.iface 153 (.pointer (some ⟨X, 0, none⟩))) ∧ Below w'.heap.size w' w2) := ⟨⟨X, rfl, hX⟩, hb⟩
  clear hX hb
  go_wp2
  go_ret2
  exact ⟨_, rfl, HW.out⟩

set_option maxHeartbeats 1600000 in
set_option maxRecDepth 100000 in
theorem begin_empty (w : World) (h : State N w0 w L b st) (nm pn : ByteArray) (hnm : nm.size ≤ maxLen) (he : nm.toList.isEmpty = true) :
    Calls Ybaf.prog 10 #[.pointer (some ⟨L, 0, none⟩), .string nm, .string pn] w fun e w' => (∃ X, e = .returned (.iface 148 (.pointer (some ⟨X, 0, none⟩)))) ∧ Below w.heap.size w w' := by
  have HC : Hid (Calls Ybaf.prog 16 #[.pointer (some ⟨L, 0, none⟩), .string nm] w fun e w' => (∃ X, e = .returned (.iface 148 (.pointer (some ⟨X, 0, none⟩)))) ∧ Below w.heap.size w w') := unused_empty w h nm hnm he
  clear h he
  go_enter Ybaf.func10, Ybaf.ntmps10
  go_wp2_with fail
  refine HC.out.mono ?_
  rintro e w' ⟨⟨X, rfl⟩, hb⟩
  have HB : Hid (Below w.heap.size w w') := hb
  clear hb
  go_wp2
  go_ret
  exact ⟨⟨X, rfl⟩, HB.out⟩

set_option maxHeartbeats 1600000 in
set_option maxRecDepth 100000 in
theorem begin_exists (F : Interp) (w : World) (hF : F.answers w.tape) (h : State N w0 w L b st) (nm pn : ByteArray) (hnm : nm.size ≤ maxLen) (he : nm.toList.isEmpty = false) (a : Addr) (hs : Sent w 0 a) (hyes : Maps.has st.D (.string nm.data.toList) = true) :
    Calls Ybaf.prog 10 #[.pointer (some ⟨L, 0, none⟩), .string nm, .string pn] w fun e w' => ∃ v, e = .returned v ∧ Wraps w' a v ∧ Below w.heap.size w w' := by
  have HC : Hid (Calls Ybaf.prog 16 #[.pointer (some ⟨L, 0, none⟩), .string nm] w fun e w' => ∃ v, e = .returned v ∧ Wraps w' a v ∧ Below w.heap.size w w') := unused_exists F w hF h nm hnm he a hs hyes
  clear h hs hyes he hF
  go_enter Ybaf.func10, Ybaf.ntmps10
  go_wp2_with fail
  refine HC.out.mono ?_
  rintro e w' ⟨v, rfl, hw, hb⟩
  obtain ⟨X, rfl, hX⟩ := hw
  have HW : Hid (Wraps w' a (.iface 153 (.pointer (some ⟨X, 0, none⟩))) ∧ Below w.heap.size w w') := ⟨⟨X, rfl, hX⟩, hb⟩
  clear hX hb
  go_wp2
  go_ret
  exact ⟨_, rfl, HW.out⟩

/-- Where the name is free and the parent is refused. -/
theorem begin_refused (w : World) (h : State N w0 w L b st) (nm pn : ByteArray) (hnm : nm.size ≤ maxLen) (he : nm.toList.isEmpty = false) (hno : Maps.has st.D (.string nm.data.toList) = false) (a : Addr)
    (hA : Calls Ybaf.prog 17 #[.pointer (some ⟨L, 0, none⟩), .string pn] w fun e w' => ∃ v, e = .returned (.tuple #[.pointer none, v]) ∧ Wraps w' a v ∧ Below w.heap.size w w') :
    Calls Ybaf.prog 10 #[.pointer (some ⟨L, 0, none⟩), .string nm, .string pn] w fun e w' => ∃ v, e = .returned v ∧ Wraps w' a v ∧ Below w.heap.size w w' := by
  have HC : Hid (Calls Ybaf.prog 16 #[.pointer (some ⟨L, 0, none⟩), .string nm] w fun e w' => e = .returned .nilIface ∧ w' = w) := unused_ok w h nm hnm he hno
  have HA : Hid (Calls Ybaf.prog 17 #[.pointer (some ⟨L, 0, none⟩), .string pn] w fun e w' => ∃ v, e = .returned (.tuple #[.pointer none, v]) ∧ Wraps w' a v ∧ Below w.heap.size w w') := hA
  clear h hno he hA
  go_enter Ybaf.func10, Ybaf.ntmps10
  go_wp2_with fail
  refine HC.out.mono ?_
  rintro e w' ⟨rfl, rfl⟩
  go_wp2_with fail
  refine HA.out.mono ?_
  rintro e w2 ⟨v, rfl, hw, hb⟩
  obtain ⟨X, rfl, hX⟩ := hw
  have HW : Hid (Wraps w2 a (.iface 153 (.pointer (some ⟨X, 0, none⟩))) ∧ Below w'.heap.size w' w2) := ⟨⟨X, rfl, hX⟩, hb⟩
  clear hX hb
  go_wp2
  go_ret
  exact ⟨_, rfl, HW.out⟩

/-- The names of a script. -/
def nmOf (k : Int) : ByteArray := if k % 5 = 1 then ⟨#[97]⟩ else if k % 5 = 2 then ⟨#[98]⟩ else if k % 5 = 3 then ⟨#[99]⟩ else if k % 5 = 4 then ⟨#[100]⟩ else ⟨#[]⟩
theorem nmOf_size (k : Int) : (nmOf k).size ≤ maxLen := by
  unfold nmOf maxLen
  split
  · decide
  split
  · decide
  split
  · decide
  split <;> decide

set_option maxHeartbeats 1600000 in
set_option maxRecDepth 100000 in
theorem name_is (w : World) (k : Int) (h0 : 0 ≤ k) (h1 : k ≤ 255) : Calls Ybaf.prog 8 #[.int .u8 k] w fun e w' => e = .returned (.string (nmOf k)) ∧ w' = w := by
  obtain ⟨x, hx⟩ : ∃ x, nmOf k = x := ⟨_, rfl⟩
  have HX : Hid (nmOf k = x) := hx
  rw [hx]
  clear hx
  rcases (show k % 5 = 0 ∨ k % 5 = 1 ∨ k % 5 = 2 ∨ k % 5 = 3 ∨ k % 5 = 4 from by omega) with h | h | h | h | h
  all_goals
    have he := HX.out
    unfold nmOf at he
    simp only [h] at he
    simp at he
    subst he
    clear HX
    go_enter Ybaf.func8, Ybaf.ntmps8
    go_wp2
    go_ret
    exact ⟨rfl, rfl⟩
end Go.Proofs.YbulkxzmFmt
