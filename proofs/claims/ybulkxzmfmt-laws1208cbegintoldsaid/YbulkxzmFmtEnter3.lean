/-
  THE CALLEES: enter below a parent, start.
-/
import Derived.Test.YbulkxzmFmtEnter2
import Derived.Deep.CutRange
namespace Go.Proofs.YbulkxzmFmt
open Go.RowKit Go.Maps
set_option linter.unusedVariables false

variable {N : Nat} {w0 : World} {L b : Nat} {st : LT}

theorem mk_cells' {nm : ByteArray} {p q : Option Nat} {vp vq : Value} (hp : vp = pv p) (hq : vq = pv q) {dp ts : Int} {d : Bool} {nth : Int} {x7 x8 x9 x10 x11 x12 x13 x14 x15 x16 x17 x18 x19 x20 x21 x22 x27 x28 : Value} : ∀ j v, txCell (mkTx nm p q dp ts d nth) j = some v → (#[.string nm, .int .u8 0, vp, vq, .int .i64 dp, .int .u64 ts, .bool d, x7, x8, x9, x10, x11, x12, x13, x14, x15, x16, x17, x18, x19, x20, x21, x22, .pointer none, .pointer none, .pointer none, .pointer none, x27, x28, .int .u64 0, .int .u64 nth] : Array Value)[j]? = some v := by
  subst hp hq
  exact mk_cells
theorem pv_pointer (x : Option Nat) : ∃ u, .pointer u = pv x := by
  cases x <;> exact ⟨_, rfl⟩

/-- One below a parent. -/
def enterSub (st : LT) (T : Nat) (nm : ByteArray) (P : Nat) (rp : Tx) (ts : Int) (d : Bool) : LT :=
  activeS (putS ((adoptS ((stampS st).new T (mkTx nm (some P) rp.root (rp.depth + 1) ts d rp.begun)) P T rp.last).set P fun r => { r with begun := rp.begun + 1 }) nm T)

theorem set_new (st : LT) (T : Nat) (r : Tx) (f : Tx → Tx) : (st.new T r).set T f = st.new T (f r) := by
  unfold LT.new LT.set
  congr 1
  funext x
  by_cases h : x = T <;> simp [h]
theorem set_keeps {st : LT} {P B : Nat} {rp : Tx} {f : Tx → Tx} (h : st.S P = some rp) (hf : ∀ r, (f r).begun = r.begun) : ∃ r, (st.set B f).S P = some r ∧ r.begun = rp.begun := by
  by_cases e : P = B
  · exact ⟨f rp, by simp [LT.set, e]; rw [← e, h]; exact ⟨rp, rfl, rfl⟩, hf rp⟩
  · exact ⟨rp, by simp [LT.set, e, h], rfl⟩
theorem adopt_keeps {st : LT} {P T : Nat} {rp : Tx} (l : Option Nat) (h : st.S P = some rp) : ∃ r, (adoptS st P T l).S P = some r ∧ r.begun = rp.begun := by
  unfold adoptS
  cases l with
  | none =>
    obtain ⟨r1, h1, e1⟩ := set_keeps (B := T) (f := fun r => { r with prev := none }) h (fun _ => rfl)
    obtain ⟨r2, h2, e2⟩ := set_keeps (B := P) (f := fun r => { r with first := some T }) h1 (fun _ => rfl)
    obtain ⟨r3, h3, e3⟩ := set_keeps (B := P) (f := fun r => { r with last := some T }) h2 (fun _ => rfl)
    exact ⟨r3, h3, e3.trans (e2.trans e1)⟩
  | some C =>
    obtain ⟨r1, h1, e1⟩ := set_keeps (B := T) (f := fun r => { r with prev := some C }) h (fun _ => rfl)
    obtain ⟨r2, h2, e2⟩ := set_keeps (B := C) (f := fun r => { r with next := some T }) h1 (fun _ => rfl)
    obtain ⟨r3, h3, e3⟩ := set_keeps (B := P) (f := fun r => { r with last := some T }) h2 (fun _ => rfl)
    exact ⟨r3, h3, e3.trans (e2.trans e1)⟩

theorem adopt_flat (st : LT) (P T : Nat) (l : Option Nat) : (adoptS st P T l).n = st.n ∧ (adoptS st P T l).D = st.D ∧ (adoptS st P T l).stamps = st.stamps ∧ (adoptS st P T l).begun = st.begun ∧ (adoptS st P T l).active = st.active := by
  cases l <;> exact ⟨rfl, rfl, rfl, rfl, rfl⟩

set_option maxHeartbeats 3200000 in
set_option maxRecDepth 100000 in
theorem enter_sub (w : World) (h : State N w0 w L b st) (nm : ByteArray) (hnm : nm.size ≤ maxLen) (P : Nat) (rp : Tx) (hP : st.S P = some rp) (hl : ∀ C, rp.last = some C → ∃ r, st.S C = some r) (ts : Int) (d : Bool) (h0 : 0 ≤ st.stamps) (h1 : st.stamps ≤ 5000) (h2 : 0 ≤ st.active) (h3 : st.active ≤ 5000) (hn : st.n < 5000)
    (h4 : 0 ≤ rp.begun) (h5 : rp.begun ≤ 5000) (h6 : 0 ≤ rp.depth) (h7 : rp.depth ≤ 5000) :
    Calls Ybaf.prog 15 #[.pointer (some ⟨L, 0, none⟩), .string nm, .pointer (some ⟨P, 0, none⟩), .agg #[.int .u64 ts, .bool d]] w fun e w' => ∃ T, e = .returned (.pointer (some ⟨T, 0, none⟩)) ∧ w.heap.size ≤ T ∧ State N w0 w' L b (enterSub st T nm P rp ts d) := by
  have HH : Hid (State N w0 w L b st) := h
  have hc0 := h.cellL (j := 0) rfl
  have hsL := h.sL
  have HS0 : Hid (0 ≤ st.stamps) := h0
  have HS1 : Hid (st.stamps ≤ 5000) := h1
  obtain ⟨V, hV⟩ : ∃ V, w.heap.size = V := ⟨_, rfl⟩
  rw [hV] at hsL ⊢
  have hsP := h.sizeT hP
  rw [hV] at hsP
  have hp3 := h.cellT hP (j := 3) rfl
  have hp4 := h.cellT hP (j := 4) rfl
  have hp29 := h.cellT hP (j := 29) rfl
  obtain ⟨u, hu⟩ := pv_pointer rp.root
  rw [← hu] at hp3
  have HU : Hid (.pointer u = pv rp.root) := hu
  have HP : Hid (st.S P = some rp) := hP
  have HL : Hid (∀ C, rp.last = some C → ∃ r, st.S C = some r) := hl
  have hLP : ¬ L = P := fun e => (h.tx P rp hP).2.1 e.symm
  clear h h0 h1 hu hP hl
  go_enter Ybaf.func15, Ybaf.ntmps15
  go_wp2
  go_cut [9] from 10 (fun t wx => t = .pointer (some ⟨V + 1, 0, none⟩) ∧ State N w0 wx L b ((stampS st).new (V + 1) (mkTx nm (some P) none 0 ts d 0)))
  case first =>
    go_region_with (go_at_call 22; refine (stamp_any _ (by exact (HH.out.alloc _).drew) HS0.out HS1.out).mono ?_; rintro e w1 ⟨rfl, rfl⟩)
    all_goals
      go_wp2_with fail
      go_meet
      exact ⟨rfl, ((HH.out.stamp.alloc _).mkT (V + 1) (by simp [hV]) _ 101 (mkTx nm (some P) none 0 ts d 0) mk_cells).drew⟩
  case rest =>
    obtain ⟨rfl, hst⟩ := hcut
    obtain ⟨T, hT⟩ : ∃ T, T = V + 1 := ⟨_, rfl⟩
    rw [← hT] at hst ⊢
    have HVT : Hid (V ≤ T) := by show V ≤ T; omega
    have HPV : Hid (¬ P = T) := by show ¬ P = T; omega
    clear hT
    have hP1 : ((stampS st).new T (mkTx nm (some P) none 0 ts d 0)).S P = some rp := by simp [LT.new, stampS, HPV.out, HP.out]
    have hT1 : ((stampS st).new T (mkTx nm (some P) none 0 ts d 0)).S T = some (mkTx nm (some P) none 0 ts d 0) := by simp [LT.new]
    have hp3 := hst.cellT hP1 (j := 3) rfl
    have hp4 := hst.cellT hP1 (j := 4) rfl
    have hp29 := hst.cellT hP1 (j := 29) rfl
    rw [← HU.out] at hp3
    have ht3 : wc.cell? ⟨T, 3, none⟩ = some (.pointer none) := hst.cellT hT1 (j := 3) rfl
    have ht4 : wc.cell? ⟨T, 4, none⟩ = some (.int .i64 0) := hst.cellT hT1 (j := 4) rfl
    have ht30 : wc.cell? ⟨T, 30, none⟩ = some (.int .u64 0) := hst.cellT hT1 (j := 30) rfl
    have hf3 := hst.frozT hT1 3
    have hf4 := hst.frozT hT1 4
    have hf30 := hst.frozT hT1 30
    have HST : Hid (State N w0 wc L b ((stampS st).new T (mkTx nm (some P) none 0 ts d 0))) := hst
    have HP1 : Hid (((stampS st).new T (mkTx nm (some P) none 0 ts d 0)).S P = some rp) := hP1
    have HT1 : Hid (((stampS st).new T (mkTx nm (some P) none 0 ts d 0)).S T = some (mkTx nm (some P) none 0 ts d 0)) := hT1
    have hPT : ¬ T = P := fun e => HPV.out e.symm
    clear hst hP1 hT1 hc0 hsL
    go_wp2
    go_region
    have HSA : Hid (State N w0 (((wc.setCell ⟨T, 3, none⟩ (.pointer u)).setCell ⟨T, 4, none⟩ (.int .i64 (rp.depth + 1))).setCell ⟨T, 30, none⟩ (.int .u64 rp.begun)).drew L b ((stampS st).new T (mkTx nm (some P) rp.root (rp.depth + 1) ts d rp.begun))) := by
      have := (((HST.out.root T new_some rp.root).depth T (set_some new_some) (rp.depth + 1)).nth T (set_some (set_some new_some)) rp.begun).drew
      rw [set_new, set_new, set_new, ← HU.out] at this
      exact this
    have HP2 : Hid (((stampS st).new T (mkTx nm (some P) rp.root (rp.depth + 1) ts d rp.begun)).S P = some rp) := by
      show ((stampS st).new T (mkTx nm (some P) rp.root (rp.depth + 1) ts d rp.begun)).S P = some rp
      simp [LT.new, stampS, HPV.out, HP.out]
    have HL2 : Hid (∀ C, rp.last = some C → ∃ r, ((stampS st).new T (mkTx nm (some P) rp.root (rp.depth + 1) ts d rp.begun)).S C = some r) := fun C hC => by
      by_cases e : C = T
      · exact ⟨_, by simp [LT.new, e]; rfl⟩
      · obtain ⟨r, hr⟩ := HL.out C hC
        exact ⟨r, by simp [LT.new, stampS, e, hr]⟩
    clear HST HP1 HT1 hf3 hf4 hf30 ht3 ht4 ht30
    go_wp2_with fail
    refine (adopt_any _ HSA.out P T rp _ HP2.out (by simp [LT.new]; rfl) HL2.out).mono ?_
    rintro e w1 ⟨rfl, hst1⟩
    clear HSA hp3 hp4 hp29
    obtain ⟨r1, hr1, hb1⟩ := adopt_keeps (T := T) rp.last HP2.out
    have hp29 : w1.cell? ⟨P, 29, none⟩ = some (.int .u64 rp.begun) := by rw [← hb1]; exact hst1.cellT hr1 (j := 29) rfl
    have hpf := hst1.frozT hr1 29
    have hc0 := hst1.cellL (j := 0) rfl
    have HS2 : Hid (State N w0 (w1.setCell ⟨P, 29, none⟩ (.int .u64 (rp.begun + 1))) L b ((adoptS ((stampS st).new T (mkTx nm (some P) rp.root (rp.depth + 1) ts d rp.begun)) P T rp.last).set P fun r => { r with begun := rp.begun + 1 })) := hst1.begT P ⟨_, hr1⟩ _
    obtain ⟨stA, hA⟩ : ∃ stA, stA = ((adoptS ((stampS st).new T (mkTx nm (some P) rp.root (rp.depth + 1) ts d rp.begun)) P T rp.last).set P fun r => { r with begun := rp.begun + 1 }) := ⟨_, rfl⟩
    obtain ⟨f1, f2, f3, f4, f5⟩ := adopt_flat ((stampS st).new T (mkTx nm (some P) rp.root (rp.depth + 1) ts d rp.begun)) P T rp.last
    have HAn : Hid (stA.n < 5000) := by show stA.n < 5000; rw [hA]; simp only [LT.set]; rw [f1]; exact hn
    have hac : stA.active = st.active := by rw [hA]; simp only [LT.set]; rw [f5]; rfl
    have HA : Hid (enterSub st T nm P rp ts d = activeS (putS stA nm T)) := by
      show enterSub st T nm P rp ts d = activeS (putS stA nm T)
      rw [hA]; rfl
    rw [← hA] at HS2
    clear hst1 hr1 hb1 hA f1 f2 f3 f4 f5 HP2 HL2
    obtain ⟨ac, hac'⟩ : ∃ s, st.active = s := ⟨_, rfl⟩
    rw [hac'] at h2 h3 hac
    clear hac'
    go_wp2_with (at_mapUpdate; refine put _ rfl (.tmp 58) (.tmp 59) (.tmp 60) rfl b stA.n stA.D rfl (by exact HS2.out.own) (by have := HAn.out; unfold maxLen; omega) nm rfl hnm T rfl ?_; intro w2 hown2 hgrow2; have HX : Hid (State N w0 w2 L b (putS stA nm T)) := HS2.out.put _ _ hgrow2 hown2; clear hown2 hgrow2; have hc41 : w2.cell? ⟨L, 41, none⟩ = some (.int .u64 ac) := hac ▸ HX.out.cellL (j := 41) rfl; have hf41 := HX.out.ltf 41)
    go_ret
    refine ⟨T, rfl, HVT.out, ?_⟩
    have := HX.out.act
    rw [show (putS stA nm T).active = ac from hac] at this
    rw [HA.out]
    exact this
end Go.Proofs.YbulkxzmFmt
