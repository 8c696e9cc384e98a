/-
  WHAT skipValue RECORDS IN p: the block in which p's part lies, and nothing else that was there, turns.
-/
import Derived.Test.YbulkxxiDoorSkip
namespace Go.Proofs.YbulkxxiDoor
open Go.RowKit
set_option linter.unusedVariables false

/-- w CAME OUT OF w0, ALL BLOCKS THAT WERE THERE BUT P AS THEY WERE; P is a row of N cells of parts still. -/
structure PS (w0 w : World) (P N : Nat) : Prop where
  os : w.os = w0.os
  tape : w.tape = w0.tape
  output : w.output = w0.output
  size : w0.heap.size ≤ w.heap.size
  block : ∀ k, k < w0.heap.size → k ≠ P → w.heap[k]? = w0.heap[k]?
  part : ∃ cs : Array Value, w.heap[P]? = some (.cells cs 29 (0, 0)) ∧ cs.size = N

theorem PS.lt {w0 w : World} {P N : Nat} (h : PS w0 w P N) : P < w.heap.size := by
  obtain ⟨cs, hc, _⟩ := h.part
  exact (Array.getElem?_eq_some_iff.1 hc).1

theorem PS.below {w0 w w' : World} {P N : Nat} (h : PS w0 w P N) (hb : Below w.heap.size w w') : PS w0 w' P N :=
  ⟨hb.os.trans h.os, hb.tape.trans h.tape, hb.output.trans h.output, Nat.le_trans h.size hb.size, fun k hk hkP => (hb.block k (Nat.lt_of_lt_of_le hk h.size)).trans (h.block k hk hkP), by
    rw [hb.block P h.lt]; exact h.part⟩

theorem PS.trans {w0 w1 w2 : World} {P N : Nat} (h : PS w0 w1 P N) (k : PS w1 w2 P N) : PS w0 w2 P N :=
  ⟨k.os.trans h.os, k.tape.trans h.tape, k.output.trans h.output, Nat.le_trans h.size k.size, fun i hi hiP => (k.block i (Nat.lt_of_lt_of_le hi h.size) hiP).trans (h.block i hi hiP), k.part⟩

/-- Where another block alone has turned, one that is new. -/
theorem PS.other {w0 w w' : World} {P N M K : Nat} (h : PS w0 w P N) (k : PS w w' M K) (hM : w0.heap.size ≤ M) (hPM : P ≠ M) : PS w0 w' P N :=
  ⟨k.os.trans h.os, k.tape.trans h.tape, k.output.trans h.output, Nat.le_trans h.size k.size, fun i hi hiP => (k.block i (Nat.lt_of_lt_of_le hi h.size) (by omega)).trans (h.block i hi hiP), by
    rw [k.block P h.lt hPM]; exact h.part⟩

theorem PS.free {w0 w : World} {P N : Nat} (h : PS w0 w P N) (j : Nat) : w.frozen? ⟨P, j, none⟩ = false := by
  obtain ⟨cs, hc, _⟩ := h.part
  exact frozen_of_row w P j cs 29 hc

theorem heap_setCell_same (w : World) (P j : Nat) (cs : Array Value) (t : TypeId) (fr : Nat × Nat) (v : Value) (h : w.heap[P]? = some (.cells cs t fr)) : (w.setCell ⟨P, j, none⟩ v).heap[P]? = some (.cells (cs.setIfInBounds j v) t fr) := by
  simp only [World.setCell, Array.getElem?_modify, h]
  simp

theorem PS.setCell {w0 w : World} {P N j : Nat} {v : Value} (h : PS w0 w P N) (hv : v.oneCell' = true) : PS w0 (w.setCell ⟨P, j, none⟩ v) P N := by
  obtain ⟨cs, hc, hN⟩ := h.part
  refine ⟨h.os, h.tape, h.output, by simpa [World.setCell] using h.size, fun k hk hkP => ?_, ⟨cs.setIfInBounds j v, heap_setCell_same w P j cs 29 (0, 0) v hc, by simpa using hN⟩⟩
  rw [Below.heap_setCell w ⟨P, j, none⟩ v k hkP]; exact h.block k hk hkP

/-- A part that has not been touched yet. -/
structure Part0 (w : World) (P off N : Nat) : Prop where
  part : ∃ cs : Array Value, w.heap[P]? = some (.cells cs 29 (0, 0)) ∧ cs.size = N
  fits : off + 6 ≤ N
  len : w.cell? ⟨P, off + 3, none⟩ = some (.int .i64 0)
  marks : w.cell? ⟨P, off + 4, none⟩ = some (.slice none 0 0)
  members : w.cell? ⟨P, off + 5, none⟩ = some (.slice none 0 0)

theorem Part0.refl {w : World} {P off N : Nat} (h : Part0 w P off N) : PS w w P N := ⟨rfl, rfl, rfl, Nat.le_refl _, fun _ _ _ => rfl, h.part⟩
theorem Part0.lt {w : World} {P off N : Nat} (h : Part0 w P off N) : P < w.heap.size := h.refl.lt
theorem Part0.below {w w' : World} {P off N : Nat} (h : Part0 w P off N) (hb : Below w.heap.size w w') : Part0 w' P off N :=
  ⟨by rw [hb.block P h.lt]; exact h.part, h.fits, (hb.cell (p := ⟨P, off + 3, none⟩) h.lt).trans h.len, (hb.cell (p := ⟨P, off + 4, none⟩) h.lt).trans h.marks, (hb.cell (p := ⟨P, off + 5, none⟩) h.lt).trans h.members⟩

theorem PS.env {w0 w : World} {P N g n : Nat} {l : List Int} (h : PS w0 w P N) (he : Env w0 g n l) (hP : P ≠ g) (hP3 : 3 ≤ P) : Env w g n l := by
  have hcell : ∀ b o, b < w0.heap.size → b ≠ P → w.cell? ⟨b, o, none⟩ = w0.cell? ⟨b, o, none⟩ := fun b o hb hbP => World.cell?_of_block (w := w0) (h.block b hb hbP)
  have hg2 := he.hg2
  exact ⟨⟨he.txt.len, fun j hj => (hcell g j he.hg (Ne.symm hP)).trans (he.txt.cell j hj), he.txt.byte, he.txt.big⟩, Nat.lt_of_lt_of_le he.hg h.size, Nat.lt_of_lt_of_le hg2 h.size,
    fun j hj => (hcell 2 j hg2 (by omega)).trans (he.tab j hj), fun j hj => (hcell 0 j (by omega) (by omega)).trans (he.sp j hj)⟩
end Go.Proofs.YbulkxxiDoor
