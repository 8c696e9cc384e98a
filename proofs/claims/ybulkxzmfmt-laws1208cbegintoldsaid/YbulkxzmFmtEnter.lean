/-
  THE CALLEES: stamp, adopt, enter, start.
-/
import Derived.Test.YbulkxzmFmtState
import Derived.Deep.RegionWith
namespace Go.Proofs.YbulkxzmFmt
open Go.RowKit Go.Maps
set_option linter.unusedVariables false

variable {N : Nat} {w0 : World} {L b : Nat} {st : LT}

set_option maxHeartbeats 800000 in
set_option maxRecDepth 100000 in
theorem stamp_any (w : World) (h : State N w0 w L b st) (h0 : 0 ≤ st.stamps) (h1 : st.stamps ≤ 5000) :
    Calls Ybaf.prog 22 #[.pointer (some ⟨L, 0, none⟩)] w fun e w' => e = .returned (.int .u64 (st.stamps + 1)) ∧ w' = w.setCell ⟨L, 6, none⟩ (.int .u64 (st.stamps + 1)) := by
  have hc := h.cellL (j := 6) rfl
  have hf := h.ltf 6
  obtain ⟨s, hs⟩ : ∃ s, st.stamps = s := ⟨_, rfl⟩
  rw [hs] at hc h0 h1 ⊢
  clear h hs
  go_enter Ybaf.func22, Ybaf.ntmps22
  go_wp2
  go_ret
  exact ⟨rfl, rfl⟩

/-- c becomes the last of t's. -/
def adoptS (st : LT) (P T : Nat) (l : Option Nat) : LT :=
  let st1 := st.set T fun r => { r with prev := l }
  let st2 := match l with
    | none => st1.set P fun r => { r with first := some T }
    | some C => st1.set C fun r => { r with next := some T }
  st2.set P fun r => { r with last := some T }

theorem set_some {st : LT} {B C : Nat} {f : Tx → Tx} (h : ∃ r, st.S C = some r) : ∃ r, (st.set B f).S C = some r := by
  obtain ⟨r, h⟩ := h
  by_cases e : C = B
  · exact ⟨f r, by simp [LT.set, e]; rw [← e, h]; exact ⟨r, rfl, rfl⟩⟩
  · exact ⟨r, by simp [LT.set, e, h]⟩

set_option maxHeartbeats 1600000 in
set_option maxRecDepth 100000 in
theorem adopt_any (w : World) (h : State N w0 w L b st) (P T : Nat) (rp rt : Tx) (hP : st.S P = some rp) (hT : st.S T = some rt) (hl : ∀ C, rp.last = some C → ∃ r, st.S C = some r) :
    Calls Ybaf.prog 23 #[.pointer (some ⟨P, 0, none⟩), .pointer (some ⟨T, 0, none⟩)] w fun e w' => e = .returned (.tuple #[]) ∧ State N w0 w' L b (adoptS st P T rp.last) := by
  have HH : Hid (State N w0 w L b st) := h
  have hc := h.cellT hP (j := 24) rfl
  have hp24 := h.frozT hP 24
  have hp23 := h.frozT hP 23
  have ht25 := h.frozT hT 25
  have hct := h.cellT hT (j := 25) rfl
  have hcp := h.cellT hP (j := 23) rfl
  have HP : Hid (∃ r, st.S P = some r) := ⟨_, hP⟩
  have HT : Hid (∃ r, st.S T = some r) := ⟨_, hT⟩
  cases hlast : rp.last with
  | none =>
    rw [hlast] at hc
    simp only [pv] at hc
    clear h hP hT hl hlast
    go_enter Ybaf.func23, Ybaf.ntmps23
    go_wp2
    go_end0
    refine ⟨rfl, ?_⟩
    exact ((HH.out.setT T 25 (pv none) (fun r => { r with prev := none }) HT.out (fun r => ⟨rfl, rfl, fun i hi => by unfold txCell; split <;> first | rfl | exact absurd rfl hi⟩)).setT P 23 (pv (some T)) (fun r => { r with first := some T }) (set_some HP.out) (fun r => ⟨rfl, rfl, fun i hi => by unfold txCell; split <;> first | rfl | exact absurd rfl hi⟩)).setT P 24 (pv (some T)) (fun r => { r with last := some T }) (set_some (set_some HP.out)) (fun r => ⟨rfl, rfl, fun i hi => by unfold txCell; split <;> first | rfl | exact absurd rfl hi⟩)
  | some C =>
    rw [hlast] at hc
    simp only [pv] at hc
    obtain ⟨rc, hC⟩ := hl C hlast
    have hc26 := h.frozT hC 26
    have hcc := h.cellT hC (j := 26) rfl
    have HC : Hid (∃ r, st.S C = some r) := ⟨_, hC⟩
    clear h hP hT hl hlast hC
    go_enter Ybaf.func23, Ybaf.ntmps23
    go_wp2
    go_end0
    refine ⟨rfl, ?_⟩
    exact ((HH.out.setT T 25 (pv (some C)) (fun r => { r with prev := some C }) HT.out (fun r => ⟨rfl, rfl, fun i hi => by unfold txCell; split <;> first | rfl | exact absurd rfl hi⟩)).setT C 26 (pv (some T)) (fun r => { r with next := some T }) (set_some HC.out) (fun r => ⟨rfl, rfl, fun i hi => by unfold txCell; split <;> first | rfl | exact absurd rfl hi⟩)).setT P 24 (pv (some T)) (fun r => { r with last := some T }) (set_some (set_some HP.out)) (fun r => ⟨rfl, rfl, fun i hi => by unfold txCell; split <;> first | rfl | exact absurd rfl hi⟩)
end Go.Proofs.YbulkxzmFmt
