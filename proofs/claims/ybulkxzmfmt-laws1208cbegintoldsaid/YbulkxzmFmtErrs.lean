/-
  THE CALLEES THAT REFUSE: exists, notActive, errors.New.
-/
import Derived.Test.YbulkxzmFmtBegin
import Derived.Test.YbulkxzmFmtFacts
namespace Go.Proofs.YbulkxzmFmt
open Go.RowKit Go.Maps Go.Extern.Stop Go.Stop Go.Extern
set_option linter.unusedVariables false
attribute [local go_sem] Ybaf.call31 Ybaf.guard Ybaf.fmt0 Ybaf.fmt0r Ybaf.fmt1 Ybaf.fmt1r Ybaf.fmt2 Ybaf.fmt2r Ybaf.op9_115w Ybaf.strict9 Ybaf.ptr148 Ybaf.elem148 Ybaf.isError148' Ybaf.ptr153 Ybaf.elem153 Ybaf.isError153'

/-- Variable g holds a sentinel. -/
def Sent (w : World) (g : Nat) (a : Addr) : Prop := w.cell? ⟨g, 0, none⟩ = some (.iface 148 (.pointer (some a))) ∧ g < w.heap.size ∧ ∃ s, w.cell? a = some (.string s)
theorem Sent.lt {w : World} {g : Nat} {a : Addr} (h : Sent w g a) : a.block < w.heap.size := by
  obtain ⟨_, _, s, hs⟩ := h
  exact World.block_lt_of_cell? _ _ hs
theorem Sent.below {w w' : World} {g B : Nat} {a : Addr} (h : Sent w g a) (hb : Below B w w') (hg : g < B) (ha : a.block < B) : Sent w' g a := by
  obtain ⟨h1, h2, s, hs⟩ := h
  exact ⟨(hb.cell (p := ⟨g, 0, none⟩) hg).trans h1, Nat.lt_of_lt_of_le h2 hb.size, s, (hb.cell ha).trans hs⟩

/-- Value v wraps the sentinel at a. -/
def Wraps (w : World) (a : Addr) (v : Value) : Prop := ∃ X, v = .iface 153 (.pointer (some ⟨X, 0, none⟩)) ∧ w.cell? ⟨X, 1, none⟩ = some (.iface 148 (.pointer (some a)))
theorem wraps_mk {w : World} {V : Nat} (hV : w.heap.size = V) (o : Obj) (x : Value) (a : Addr) (t : TypeId) : Wraps ((w.alloc o).alloc (.cells #[x, .iface 148 (.pointer (some a))] t)).drew a (.iface 153 (.pointer (some ⟨V + 1, 0, none⟩))) :=
  ⟨V + 1, rfl, (World.cell?_alloc_at (w := w.alloc o) #[x, .iface 148 (.pointer (some a))] t (V + 1) 1 (by simp [hV])).trans rfl⟩

variable {N : Nat} {w0 : World} {L b : Nat} {st : LT}

set_option maxHeartbeats 1600000 in
set_option maxRecDepth 100000 in
theorem exists_any (F : Interp) (w : World) (hF : F.answers w.tape) (nm : ByteArray) (a : Addr) (hs : Sent w 0 a) :
    Calls Ybaf.prog 25 #[.string nm] w fun e w' => ∃ v, e = .returned v ∧ Wraps w' a v ∧ Below w.heap.size w w' := by
  have hlt := hs.lt
  obtain ⟨hg, hg0, s, hc⟩ := hs
  have hF' := hF
  unfold Interp.answers at hF'
  obtain ⟨pl, hop⟩ := Ybaf.opPlain148_119w "fmt.errorf" a s (w.alloc (.cells #[.iface 9 (.string nm), .iface 148 (.pointer (some a))] 20)) ((World.cell?_alloc_lt _ _ _ hlt).trans hc)
  obtain ⟨V, hV⟩ : ∃ V, w.heap.size = V := ⟨_, rfl⟩
  rw [hV] at hlt hg0 ⊢
  have HB : Hid (∀ o o', Below V w ((w.alloc o).alloc o').drew) := fun o o' => (((Below.refl V w).alloc (by omega) o).alloc (by simp; omega) o').drew
  have HW : Hid (∀ o x, Wraps ((w.alloc o).alloc (.cells #[x, .iface 148 (.pointer (some a))] 306)).drew a (.iface 153 (.pointer (some ⟨V + 1, 0, none⟩)))) := fun o x => wraps_mk hV o x a 306
  clear hc
  go_enter Ybaf.func25, Ybaf.ntmps25
  go_wp2_with go_in
  go_ret
  exact ⟨_, rfl, HW.out _ _, HB.out _ _⟩

set_option maxHeartbeats 1600000 in
set_option maxRecDepth 100000 in
theorem notActive_any (F : Interp) (w : World) (hF : F.answers w.tape) (nm : ByteArray) (a : Addr) (hs : Sent w 2 a) :
    Calls Ybaf.prog 26 #[.string nm] w fun e w' => ∃ v, e = .returned v ∧ Wraps w' a v ∧ Below w.heap.size w w' := by
  have hlt := hs.lt
  obtain ⟨hg, hg0, s, hc⟩ := hs
  have hF' := hF
  unfold Interp.answers at hF'
  obtain ⟨pl, hop⟩ := Ybaf.opPlain148_119w "fmt.errorf" a s (w.alloc (.cells #[.iface 9 (.string nm), .iface 148 (.pointer (some a))] 20)) ((World.cell?_alloc_lt _ _ _ hlt).trans hc)
  obtain ⟨V, hV⟩ : ∃ V, w.heap.size = V := ⟨_, rfl⟩
  rw [hV] at hlt hg0 ⊢
  have HB : Hid (∀ o o', Below V w ((w.alloc o).alloc o').drew) := fun o o' => (((Below.refl V w).alloc (by omega) o).alloc (by simp; omega) o').drew
  have HW : Hid (∀ o x, Wraps ((w.alloc o).alloc (.cells #[x, .iface 148 (.pointer (some a))] 306)).drew a (.iface 153 (.pointer (some ⟨V + 1, 0, none⟩)))) := fun o x => wraps_mk hV o x a 306
  clear hc
  go_enter Ybaf.func26, Ybaf.ntmps26
  go_wp2_with go_in
  go_ret
  exact ⟨_, rfl, HW.out _ _, HB.out _ _⟩

set_option maxHeartbeats 1600000 in
set_option maxRecDepth 100000 in
theorem known_no (F : Interp) (w : World) (hF : F.answers w.tape) (h : State N w0 w L b st) (nm : ByteArray) (hnm : nm.size ≤ maxLen) (a : Addr) (hs : Sent w 1 a) (hno : Maps.has st.D (.string nm.data.toList) = false) :
    Calls Ybaf.prog 20 #[.pointer (some ⟨L, 0, none⟩), .string nm] w fun e w' => ∃ v, e = .returned (.tuple #[.pointer none, v]) ∧ Wraps w' a v ∧ Below w.heap.size w w' := by
  have HH : Hid (State N w0 w L b st) := h
  have hc0 := h.cellL (j := 0) rfl
  have hlt := hs.lt
  obtain ⟨hg, hg0, s, hc⟩ := hs
  have hF' := hF
  unfold Interp.answers at hF'
  obtain ⟨pl, hop⟩ := Ybaf.opPlain148_119w "fmt.errorf" a s (w.alloc (.cells #[.iface 148 (.pointer (some a)), .iface 9 (.string nm)] 20)) ((World.cell?_alloc_lt _ _ _ hlt).trans hc)
  obtain ⟨V, hV⟩ : ∃ V, w.heap.size = V := ⟨_, rfl⟩
  rw [hV] at hlt hg0 ⊢
  have HB : Hid (∀ o o', Below V w ((w.alloc o).alloc o').drew) := fun o o' => (((Below.refl V w).alloc (by omega) o).alloc (by simp; omega) o').drew
  have HW : Hid (∀ o x, Wraps ((w.alloc o).alloc (.cells #[x, .iface 148 (.pointer (some a))] 306)).drew a (.iface 153 (.pointer (some ⟨V + 1, 0, none⟩)))) := fun o x => wraps_mk hV o x a 306
  clear hc h
  go_enter Ybaf.func20, Ybaf.ntmps20
  go_wp2_with (first | (at_lookup; refine look_ok _ rfl (.tmp 12) (.tmp 13) rfl b st.n st.D rfl HH.out.own nm rfl hnm ?_; rw [hno]) | go_in)
  go_ret2
  exact ⟨_, rfl, HW.out _ _, HB.out _ _⟩

set_option maxHeartbeats 1600000 in
set_option maxRecDepth 100000 in
theorem unused_empty (w : World) (h : State N w0 w L b st) (nm : ByteArray) (hnm : nm.size ≤ maxLen) (he : nm.toList.isEmpty = true) :
    Calls Ybaf.prog 16 #[.pointer (some ⟨L, 0, none⟩), .string nm] w fun e w' => (∃ X, e = .returned (.iface 148 (.pointer (some ⟨X, 0, none⟩)))) ∧ Below w.heap.size w w' := by
  have HH : Hid (State N w0 w L b st) := h
  have hc0 := h.cellL (j := 0) rfl
  obtain ⟨x, hx⟩ : ∃ x, ptrOf (st.D.atKey (.string nm.data.toList) .nil) = .pointer x := by
    unfold ptrOf
    split <;> exact ⟨_, rfl⟩
  have HX : Hid (ptrOf (st.D.atKey (.string nm.data.toList) .nil) = .pointer x) := hx
  have HB : Hid (∀ o, Below w.heap.size w (w.alloc o)) := fun o => (Below.refl _ w).alloc (Nat.le_refl _) o
  obtain ⟨B, hB⟩ : ∃ B, Maps.has st.D (.string nm.data.toList) = B := ⟨_, rfl⟩
  clear h hx
  go_enter Ybaf.func16, Ybaf.ntmps16
  go_wp2_with (first | (at_lookup; refine look_ok _ rfl (.tmp 11) (.tmp 12) rfl b st.n st.D rfl HH.out.own nm rfl hnm ?_; rw [HX.out, hB]) | go_in)
  go_ret
  exact ⟨⟨_, rfl⟩, HB.out _⟩

set_option maxHeartbeats 1600000 in
set_option maxRecDepth 100000 in
theorem unused_exists (F : Interp) (w : World) (hF : F.answers w.tape) (h : State N w0 w L b st) (nm : ByteArray) (hnm : nm.size ≤ maxLen) (he : nm.toList.isEmpty = false) (a : Addr) (hs : Sent w 0 a) (hyes : Maps.has st.D (.string nm.data.toList) = true) :
    Calls Ybaf.prog 16 #[.pointer (some ⟨L, 0, none⟩), .string nm] w fun e w' => ∃ v, e = .returned v ∧ Wraps w' a v ∧ Below w.heap.size w w' := by
  have HH : Hid (State N w0 w L b st) := h
  have hc0 := h.cellL (j := 0) rfl
  obtain ⟨x, hx⟩ : ∃ x, ptrOf (st.D.atKey (.string nm.data.toList) .nil) = .pointer x := by
    unfold ptrOf
    split <;> exact ⟨_, rfl⟩
  have HX : Hid (ptrOf (st.D.atKey (.string nm.data.toList) .nil) = .pointer x) := hx
  have HC : Hid (Calls Ybaf.prog 25 #[.string nm] w fun e w' => ∃ v, e = .returned v ∧ Wraps w' a v ∧ Below w.heap.size w w') := exists_any F w hF nm a hs
  clear h hx hs
  go_enter Ybaf.func16, Ybaf.ntmps16
  go_wp2_with (at_lookup; refine look_ok _ rfl (.tmp 11) (.tmp 12) rfl b st.n st.D rfl HH.out.own nm rfl hnm ?_; rw [HX.out, hyes])
  refine HC.out.mono ?_
  rintro e w' ⟨v, rfl, hw, hb⟩
  have HW : Hid (Wraps w' a v ∧ Below w.heap.size w w') := ⟨hw, hb⟩
  clear hw hb
  go_wp2
  go_ret
  exact ⟨_, rfl, HW.out⟩
end Go.Proofs.YbulkxzmFmt
