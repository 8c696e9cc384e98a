/-
  THE CALLEES: start, NewLockTable, zzs1208cchild.
-/
import Derived.Test.YbulkxzmFmtEnter3
namespace Go.Proofs.YbulkxzmFmt
open Go.RowKit Go.Maps
set_option linter.unusedVariables false

variable {N : Nat} {w0 : World} {L b : Nat} {st : LT}

set_option maxHeartbeats 1600000 in
set_option maxRecDepth 100000 in
theorem start_top (w : World) (h : State N w0 w L b st) (nm : ByteArray) (hnm : nm.size ≤ maxLen) (ts : Int) (d : Bool) (h0 : 0 ≤ st.stamps) (h1 : st.stamps ≤ 5000) (h2 : 0 ≤ st.active) (h3 : st.active ≤ 5000) (hn : st.n < 5000) (hb0 : 0 ≤ st.begun) (hb1 : st.begun ≤ 5000) :
    Calls Ybaf.prog 9 #[.pointer (some ⟨L, 0, none⟩), .string nm, .pointer none, .agg #[.int .u64 ts, .bool d]] w fun e w' => ∃ T, e = .returned (.pointer (some ⟨T, 0, none⟩)) ∧ w.heap.size ≤ T ∧ State N w0 w' L b (enterTop (begunS st) T nm ts d) := by
  have HH : Hid (State N w0 w L b st) := h
  have hc := h.cellL (j := 27) rfl
  have hf := h.ltf 27
  have hsL := h.sL
  obtain ⟨V, hV⟩ : ∃ V, w.heap.size = V := ⟨_, rfl⟩
  rw [hV] at hsL ⊢
  have HC : Hid (∀ wx, State N w0 wx L b (begunS st) → V + 1 = wx.heap.size → Calls Ybaf.prog 15 #[.pointer (some ⟨L, 0, none⟩), .string nm, .pointer none, .agg #[.int .u64 ts, .bool d]] wx fun e w' => ∃ T, e = .returned (.pointer (some ⟨T, 0, none⟩)) ∧ V ≤ T ∧ State N w0 w' L b (enterTop (begunS st) T nm ts d)) := fun wx hx hs => (enter_top wx hx nm hnm ts d h0 h1 h2 h3 hn).mono fun e w' ⟨T, he, hT, hst⟩ => ⟨T, he, by omega, hst⟩
  clear h h0 h1 h2 h3 hn hnm
  go_enter Ybaf.func9, Ybaf.ntmps9
  go_wp2_with fail
  refine (HC.out _ (by exact HH.out.beg.alloc _) (by simp [hV])).mono ?_
  rintro e w' ⟨T, rfl, hT, hst⟩
  have HX : Hid (State N w0 w' L b (enterTop (begunS st) T nm ts d)) := hst
  clear hst
  go_wp2
  go_ret
  exact ⟨T, rfl, hT, HX.out⟩

set_option maxHeartbeats 1600000 in
set_option maxRecDepth 100000 in
theorem start_sub (w : World) (h : State N w0 w L b st) (nm : ByteArray) (hnm : nm.size ≤ maxLen) (P : Nat) (rp : Tx) (hP : st.S P = some rp) (hl : ∀ C, rp.last = some C → ∃ r, st.S C = some r) (ts : Int) (d : Bool) (h0 : 0 ≤ st.stamps) (h1 : st.stamps ≤ 5000) (h2 : 0 ≤ st.active) (h3 : st.active ≤ 5000) (hn : st.n < 5000) (hb0 : 0 ≤ st.begun) (hb1 : st.begun ≤ 5000)
    (h4 : 0 ≤ rp.begun) (h5 : rp.begun ≤ 5000) (h6 : 0 ≤ rp.depth) (h7 : rp.depth ≤ 5000) :
    Calls Ybaf.prog 9 #[.pointer (some ⟨L, 0, none⟩), .string nm, .pointer (some ⟨P, 0, none⟩), .agg #[.int .u64 ts, .bool d]] w fun e w' => ∃ T, e = .returned (.pointer (some ⟨T, 0, none⟩)) ∧ w.heap.size ≤ T ∧ State N w0 w' L b (enterSub (begunS st) T nm P rp ts d) := by
  have HH : Hid (State N w0 w L b st) := h
  have hc := h.cellL (j := 27) rfl
  have hf := h.ltf 27
  have hsL := h.sL
  obtain ⟨V, hV⟩ : ∃ V, w.heap.size = V := ⟨_, rfl⟩
  rw [hV] at hsL ⊢
  have HC : Hid (∀ wx, State N w0 wx L b (begunS st) → V + 1 = wx.heap.size → Calls Ybaf.prog 15 #[.pointer (some ⟨L, 0, none⟩), .string nm, .pointer (some ⟨P, 0, none⟩), .agg #[.int .u64 ts, .bool d]] wx fun e w' => ∃ T, e = .returned (.pointer (some ⟨T, 0, none⟩)) ∧ V ≤ T ∧ State N w0 w' L b (enterSub (begunS st) T nm P rp ts d)) := fun wx hx hs => (enter_sub wx hx nm hnm P rp hP hl ts d h0 h1 h2 h3 hn h4 h5 h6 h7).mono fun e w' ⟨T, he, hT, hst⟩ => ⟨T, he, by omega, hst⟩
  clear h h0 h1 h2 h3 hn hnm hP hl
  go_enter Ybaf.func9, Ybaf.ntmps9
  go_wp2_with fail
  refine (HC.out _ (by exact HH.out.beg.alloc _) (by simp [hV])).mono ?_
  rintro e w' ⟨T, rfl, hT, hst⟩
  have HX : Hid (State N w0 w' L b (enterSub (begunS st) T nm P rp ts d)) := hst
  clear hst
  go_wp2
  go_ret
  exact ⟨T, rfl, hT, HX.out⟩

/-- An empty table. -/
def emptyS : LT := { n := 0, D := .map [], S := fun _ => none, stamps := 0, begun := 0, active := 0 }

theorem state_made (w : World) (V : Nat) (hV : w.heap.size = V) (c : Array Value) (hc : ∀ j v, ltCell V emptyS j = some v → c[j]? = some v) : State V w ((((w.alloc (.map #[] 0)).alloc (.map #[] 0)).alloc (.map #[] 0)).alloc (.cells c 86)) (V + 3) V emptyS where
  below := ((((Below.refl V w).alloc (by omega) _).alloc (by simp; omega) _).alloc (by simp; omega) _).alloc (by simp; omega) _
  hN := by simp; omega
  hL := by omega
  hb := by omega
  hLb := by omega
  sL := by simp; omega
  sb := by simp; omega
  lt := fun j v h => by
    rw [World.cell?_alloc_at c 86 (V + 3) j (by simp; omega)]
    exact hc j v h
  ltf := fun j => World.frozen?_alloc_at c 86 (V + 3) j (by simp; omega)
  own := by
    have h : Own (w.alloc (.map #[] 0)) V 0 (.map []) := by rw [← hV]; exact World.ownsMap_made w Ybaf.prog 9 ptrElem
    exact ((h.alloc _).alloc _).alloc _
  tx := fun B r h => by simp [emptyS] at h

set_option maxHeartbeats 1600000 in
set_option maxRecDepth 100000 in
theorem table_any (w : World) : Calls Ybaf.prog 6 #[.slice none 0 0] w fun e w' => ∃ L b, e = .returned (.pointer (some ⟨L, 0, none⟩)) ∧ State w.heap.size w w' L b emptyS := by
  obtain ⟨V, hV⟩ : ∃ V, w.heap.size = V := ⟨_, rfl⟩
  have hmm := @run_makeMap Ybaf.prog
  have HM : Hid (∀ c : Array Value, (∀ j v, ltCell V emptyS j = some v → c[j]? = some v) → State V w ((((w.alloc (.map #[] 0)).alloc (.map #[] 0)).alloc (.map #[] 0)).alloc (.cells c 86)) (V + 3) V emptyS) := state_made w V hV
  rw [hV]
  go_enter Ybaf.func6, Ybaf.ntmps6
  go_wp2_with fail
  go_loopw [16] (fun i wr => i = .int .i64 0 ∧ State V w wr (V + 3) V emptyS) (fun i _ => 0)
  case atStart =>
    refine ⟨rfl, HM.out _ ?_⟩
    intro j v h
    unfold ltCell at h
    split at h <;> first | exact h | cases h
  case round =>
    obtain ⟨rfl, hst⟩ := hrel
    have HX : Hid (State V w wr (V + 3) V emptyS) := hst
    clear hst HM
    go_wp2
    go_ret
    exact ⟨V + 3, V, rfl, HX.out⟩
end Go.Proofs.YbulkxzmFmt
