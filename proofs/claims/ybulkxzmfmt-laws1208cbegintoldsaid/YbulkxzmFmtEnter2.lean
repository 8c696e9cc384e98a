/-
  THE CALLEES: enter, start.
-/
import Derived.Test.YbulkxzmFmtEnter
namespace Go.Proofs.YbulkxzmFmt
open Go.RowKit Go.Maps
set_option linter.unusedVariables false

variable {N : Nat} {w0 : World} {L b : Nat} {st : LT}

def mkTx (nm : ByteArray) (parent root : Option Nat) (depth : Int) (ts : Int) (d : Bool) (nth : Int) : Tx := { name := nm, state := 0, parent := parent, root := root, depth := depth, ts := ts, drawn := d, first := none, last := none, prev := none, next := none, begun := 0, nth := nth }
def stampS (st : LT) : LT := { st with stamps := st.stamps + 1 }
def putS (st : LT) (nm : ByteArray) (T : Nat) : LT := { st with n := st.n + 1, D := st.D.put (.string nm.data.toList) (.lit (.int .i64 T)) }
def activeS (st : LT) : LT := { st with active := st.active + 1 }
def begunS (st : LT) : LT := { st with begun := st.begun + 1 }
theorem State.mkT {w : World} (h : State N w0 w L b st) (T : Nat) (hT : w.heap.size = T) (c : Array Value) (t : TypeId) (r : Tx) (hr : ∀ j v, txCell r j = some v → c[j]? = some v) : State N w0 (w.alloc (.cells c t)) L b (st.new T r) := by
  subst hT
  exact h.mk' c t r hr
theorem State.stamp {w : World} (h : State N w0 w L b st) : State N w0 (w.setCell ⟨L, 6, none⟩ (.int .u64 (st.stamps + 1))) L b (stampS st) :=
  h.setL 6 _ (stampS st) rfl rfl rfl rfl rfl (fun i hi => by unfold ltCell; split <;> first | rfl | exact absurd rfl hi)
theorem State.act {w : World} (h : State N w0 w L b st) : State N w0 (w.setCell ⟨L, 41, none⟩ (.int .u64 (st.active + 1))) L b (activeS st) :=
  h.setL 41 _ (activeS st) rfl rfl rfl rfl rfl (fun i hi => by unfold ltCell; split <;> first | rfl | exact absurd rfl hi)
theorem State.beg {w : World} (h : State N w0 w L b st) : State N w0 (w.setCell ⟨L, 27, none⟩ (.int .u64 (st.begun + 1))) L b (begunS st) :=
  h.setL 27 _ (begunS st) rfl rfl rfl rfl rfl (fun i hi => by unfold ltCell; split <;> first | rfl | exact absurd rfl hi)
theorem State.root {w : World} (h : State N w0 w L b st) (B : Nat) (hB : ∃ r, st.S B = some r) (v : Option Nat) : State N w0 (w.setCell ⟨B, 3, none⟩ (pv v)) L b (st.set B fun r => { r with root := v }) :=
  h.setT B 3 _ _ hB (fun r => ⟨rfl, rfl, fun i hi => by unfold txCell; split <;> first | rfl | exact absurd rfl hi⟩)
theorem State.depth {w : World} (h : State N w0 w L b st) (B : Nat) (hB : ∃ r, st.S B = some r) (v : Int) : State N w0 (w.setCell ⟨B, 4, none⟩ (.int .i64 v)) L b (st.set B fun r => { r with depth := v }) :=
  h.setT B 4 _ _ hB (fun r => ⟨rfl, rfl, fun i hi => by unfold txCell; split <;> first | rfl | exact absurd rfl hi⟩)
theorem State.nth {w : World} (h : State N w0 w L b st) (B : Nat) (hB : ∃ r, st.S B = some r) (v : Int) : State N w0 (w.setCell ⟨B, 30, none⟩ (.int .u64 v)) L b (st.set B fun r => { r with nth := v }) :=
  h.setT B 30 _ _ hB (fun r => ⟨rfl, rfl, fun i hi => by unfold txCell; split <;> first | rfl | exact absurd rfl hi⟩)
theorem State.begT {w : World} (h : State N w0 w L b st) (B : Nat) (hB : ∃ r, st.S B = some r) (v : Int) : State N w0 (w.setCell ⟨B, 29, none⟩ (.int .u64 v)) L b (st.set B fun r => { r with begun := v }) :=
  h.setT B 29 _ _ hB (fun r => ⟨rfl, rfl, fun i hi => by unfold txCell; split <;> first | rfl | exact absurd rfl hi⟩)
theorem new_some {st : LT} {B : Nat} {r : Tx} : ∃ r', (st.new B r).S B = some r' := ⟨r, by simp [LT.new]⟩
theorem mk_cells {nm : ByteArray} {p q : Option Nat} {dp ts : Int} {d : Bool} {nth : Int} {x7 x8 x9 x10 x11 x12 x13 x14 x15 x16 x17 x18 x19 x20 x21 x22 x27 x28 : Value} : ∀ j v, txCell (mkTx nm p q dp ts d nth) j = some v → (#[.string nm, .int .u8 0, pv p, pv q, .int .i64 dp, .int .u64 ts, .bool d, x7, x8, x9, x10, x11, x12, x13, x14, x15, x16, x17, x18, x19, x20, x21, x22, .pointer none, .pointer none, .pointer none, .pointer none, x27, x28, .int .u64 0, .int .u64 nth] : Array Value)[j]? = some v := by
  intro j v h
  unfold txCell at h
  split at h <;> first | exact h | cases h
/-- A top-level one. -/
def enterTop (st : LT) (T : Nat) (nm : ByteArray) (ts : Int) (d : Bool) : LT :=
  activeS (putS ((stampS st).new T (mkTx nm none (some T) 0 ts d 0)) nm T)

set_option maxHeartbeats 1600000 in
set_option maxRecDepth 100000 in
theorem enter_top (w : World) (h : State N w0 w L b st) (nm : ByteArray) (hnm : nm.size ≤ maxLen) (ts : Int) (d : Bool) (h0 : 0 ≤ st.stamps) (h1 : st.stamps ≤ 5000) (h2 : 0 ≤ st.active) (h3 : st.active ≤ 5000) (hn : st.n < 5000) :
    Calls Ybaf.prog 15 #[.pointer (some ⟨L, 0, none⟩), .string nm, .pointer none, .agg #[.int .u64 ts, .bool d]] w fun e w' => ∃ T, e = .returned (.pointer (some ⟨T, 0, none⟩)) ∧ w.heap.size ≤ T ∧ State N w0 w' L b (enterTop st T nm ts d) := by
  have HH : Hid (State N w0 w L b st) := h
  have hc0 := h.cellL (j := 0) rfl
  have hc41 := h.cellL (j := 41) rfl
  have hf41 := h.ltf 41
  have hsL := h.sL
  have HS0 : Hid (0 ≤ st.stamps) := h0
  have HS1 : Hid (st.stamps ≤ 5000) := h1
  obtain ⟨V, hV⟩ : ∃ V, w.heap.size = V := ⟨_, rfl⟩
  rw [hV] at hsL ⊢
  obtain ⟨ac, hac⟩ : ∃ s, st.active = s := ⟨_, rfl⟩
  rw [hac] at hc41 h2 h3
  clear h h0 h1
  go_enter Ybaf.func15, Ybaf.ntmps15
  go_wp2
  go_region_with (go_at_call 22; refine (stamp_any _ (by exact (HH.out.alloc _).drew) HS0.out HS1.out).mono ?_; rintro e w1 ⟨rfl, rfl⟩)
  all_goals
    go_wp2_with (at_mapUpdate; refine put _ rfl (.tmp 58) (.tmp 59) (.tmp 60) rfl b st.n st.D rfl (by exact (((HH.out.stamp.alloc _).mkT (V + 1) (by simp [hV]) _ 101 (mkTx nm none (some (V + 1)) 0 ts d 0) mk_cells).drew).own) (by unfold maxLen; omega) nm rfl hnm (V + 1) rfl ?_; intro w1 hown1 hgrow1; have HX : Hid (State N w0 w1 L b (putS ((stampS st).new (V + 1) (mkTx nm none (some (V + 1)) 0 ts d 0)) nm (V + 1))) := (((HH.out.stamp.alloc _).mkT (V + 1) (by simp [hV]) _ 101 (mkTx nm none (some (V + 1)) 0 ts d 0) mk_cells).drew).put _ _ hgrow1 hown1; clear hown1 hgrow1; have hc41 := HX.out.cellL (j := 41) rfl; have hf41 := HX.out.ltf 41; simp only [putS, stampS, LT.new, hac] at hc41)
    go_ret
    refine ⟨V + 1, rfl, by omega, ?_⟩
    have := HX.out.act
    simp only [putS, stampS, LT.new, hac] at this
    simpa only [enterTop, activeS, putS, stampS, LT.new, hac] using this
end Go.Proofs.YbulkxzmFmt
