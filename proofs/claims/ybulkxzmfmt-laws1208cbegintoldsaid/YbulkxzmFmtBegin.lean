/-
  THE CALLEES: unused, known, active, BeginSubtransaction, where nothing is refused; zzs1208cchild.
-/
import Derived.Test.YbulkxzmFmtStart
namespace Go.Proofs.YbulkxzmFmt
open Go.RowKit Go.Maps
set_option linter.unusedVariables false

variable {N : Nat} {w0 : World} {L b : Nat} {st : LT}

set_option maxHeartbeats 1600000 in
set_option maxRecDepth 100000 in
theorem unused_ok (w : World) (h : State N w0 w L b st) (nm : ByteArray) (hnm : nm.size ≤ maxLen) (hne : nm.toList.isEmpty = false) (hno : Maps.has st.D (.string nm.data.toList) = false) :
    Calls Ybaf.prog 16 #[.pointer (some ⟨L, 0, none⟩), .string nm] w fun e w' => e = .returned .nilIface ∧ w' = w := by
  have HH : Hid (State N w0 w L b st) := h
  have hc0 := h.cellL (j := 0) rfl
  clear h
  go_enter Ybaf.func16, Ybaf.ntmps16
  go_wp2_with (at_lookup; refine look_ok _ rfl (.tmp 11) (.tmp 12) rfl b st.n st.D rfl HH.out.own nm rfl hnm ?_; rw [hno])
  go_ret
  exact ⟨rfl, rfl⟩

set_option maxHeartbeats 1600000 in
set_option maxRecDepth 100000 in
theorem known_ok (w : World) (h : State N w0 w L b st) (nm : ByteArray) (hnm : nm.size ≤ maxLen) (P : Nat) (hat : st.D.atKey (.string nm.data.toList) .nil = .lit (.int .i64 P)) (hyes : Maps.has st.D (.string nm.data.toList) = true) :
    Calls Ybaf.prog 20 #[.pointer (some ⟨L, 0, none⟩), .string nm] w fun e w' => e = .returned (.tuple #[.pointer (some ⟨P, 0, none⟩), .nilIface]) ∧ w' = w := by
  have HH : Hid (State N w0 w L b st) := h
  have hc0 := h.cellL (j := 0) rfl
  have hpt : ptrOf (st.D.atKey (.string nm.data.toList) .nil) = .pointer (some ⟨P, 0, none⟩) := by rw [hat]; simp [ptrOf]
  have HPT : Hid (ptrOf (st.D.atKey (.string nm.data.toList) .nil) = .pointer (some ⟨P, 0, none⟩)) := hpt
  clear h hat hpt
  go_enter Ybaf.func20, Ybaf.ntmps20
  go_wp2_with (at_lookup; refine look_ok _ rfl (.tmp 12) (.tmp 13) rfl b st.n st.D rfl HH.out.own nm rfl hnm ?_; rw [hyes, HPT.out])
  go_ret2
  exact ⟨rfl, rfl⟩

set_option maxHeartbeats 1600000 in
set_option maxRecDepth 100000 in
theorem active_ok (w : World) (h : State N w0 w L b st) (nm : ByteArray) (hnm : nm.size ≤ maxLen) (P : Nat) (rp : Tx) (hP : st.S P = some rp) (hs : rp.state = 0) (hat : st.D.atKey (.string nm.data.toList) .nil = .lit (.int .i64 P)) (hyes : Maps.has st.D (.string nm.data.toList) = true) :
    Calls Ybaf.prog 17 #[.pointer (some ⟨L, 0, none⟩), .string nm] w fun e w' => e = .returned (.tuple #[.pointer (some ⟨P, 0, none⟩), .nilIface]) ∧ w' = w := by
  have HH : Hid (State N w0 w L b st) := h
  have hc1 := h.cellT hP (j := 1) rfl
  rw [hs] at hc1
  have HC : Hid (Calls Ybaf.prog 20 #[.pointer (some ⟨L, 0, none⟩), .string nm] w fun e w' => e = .returned (.tuple #[.pointer (some ⟨P, 0, none⟩), .nilIface]) ∧ w' = w) := known_ok w h nm hnm P hat hyes
  clear h hat hyes hP hs
  go_enter Ybaf.func17, Ybaf.ntmps17
  go_wp2_with fail
  refine HC.out.mono ?_
  rintro e w' ⟨rfl, rfl⟩
  go_wp2
  go_ret2
  exact ⟨rfl, rfl⟩

set_option maxHeartbeats 1600000 in
set_option maxRecDepth 100000 in
theorem begin_ok (w : World) (h : State N w0 w L b st) (nm pn : ByteArray) (hnm : nm.size ≤ maxLen) (hpn : pn.size ≤ maxLen) (hne : nm.toList.isEmpty = false) (hno : Maps.has st.D (.string nm.data.toList) = false)
    (P : Nat) (rp : Tx) (hP : st.S P = some rp) (hs : rp.state = 0) (hat : st.D.atKey (.string pn.data.toList) .nil = .lit (.int .i64 P)) (hyes : Maps.has st.D (.string pn.data.toList) = true)
    (hl : ∀ C, rp.last = some C → ∃ r, st.S C = some r) (h0 : 0 ≤ st.stamps) (h1 : st.stamps ≤ 5000) (h2 : 0 ≤ st.active) (h3 : st.active ≤ 5000) (hn : st.n < 5000) (hb0 : 0 ≤ st.begun) (hb1 : st.begun ≤ 5000)
    (h4 : 0 ≤ rp.begun) (h5 : rp.begun ≤ 5000) (h6 : 0 ≤ rp.depth) (h7 : rp.depth ≤ 5000) :
    Calls Ybaf.prog 10 #[.pointer (some ⟨L, 0, none⟩), .string nm, .string pn] w fun e w' => e = .returned .nilIface ∧ ∃ T, w.heap.size ≤ T ∧ State N w0 w' L b (enterSub (begunS st) T nm P rp rp.ts rp.drawn) := by
  have hc5 := h.cellT hP (j := 5) rfl
  have hc6 := h.cellT hP (j := 6) rfl
  have HC1 : Hid (Calls Ybaf.prog 16 #[.pointer (some ⟨L, 0, none⟩), .string nm] w fun e w' => e = .returned .nilIface ∧ w' = w) := unused_ok w h nm hnm hne hno
  have HC2 : Hid (Calls Ybaf.prog 17 #[.pointer (some ⟨L, 0, none⟩), .string pn] w fun e w' => e = .returned (.tuple #[.pointer (some ⟨P, 0, none⟩), .nilIface]) ∧ w' = w) := active_ok w h pn hpn P rp hP hs hat hyes
  have HC3 := start_sub w h nm hnm P rp hP hl rp.ts rp.drawn h0 h1 h2 h3 hn hb0 hb1 h4 h5 h6 h7
  obtain ⟨V, hV⟩ : ∃ V, w.heap.size = V := ⟨_, rfl⟩
  rw [hV] at HC3 ⊢
  have HC3' : Hid (Calls Ybaf.prog 9 #[.pointer (some ⟨L, 0, none⟩), .string nm, .pointer (some ⟨P, 0, none⟩), .agg #[.int .u64 rp.ts, .bool rp.drawn]] w fun e w' => ∃ T, e = .returned (.pointer (some ⟨T, 0, none⟩)) ∧ V ≤ T ∧ State N w0 w' L b (enterSub (begunS st) T nm P rp rp.ts rp.drawn)) := HC3
  clear h hat hyes hP hs HC3 hno hne hl
  go_enter Ybaf.func10, Ybaf.ntmps10
  go_wp2_with fail
  refine HC1.out.mono ?_
  rintro e w' ⟨rfl, rfl⟩
  go_wp2_with fail
  refine HC2.out.mono ?_
  rintro e w' ⟨rfl, rfl⟩
  go_wp2_with fail
  refine HC3'.out.mono ?_
  rintro e w' ⟨T, rfl, hT, hst⟩
  have HX : Hid (State N w0 w' L b (enterSub (begunS st) T nm P rp rp.ts rp.drawn)) := hst
  clear hst
  go_wp2
  go_ret
  exact ⟨rfl, T, hT, HX.out⟩
end Go.Proofs.YbulkxzmFmt
