/-
  THE TOP-LEVEL OBJECT's RECORD: the members' row, outside the walk.
-/
import Derived.Test.YbulkxxiDoorPtr3
import Derived.Deep.AppendLies
import Derived.Deep.RegionLaw
import Derived.Deep.DrawnRows
import Derived.Deep.CutRange
namespace Go.Proofs.YbulkxxiDoor
open Go.RowKit
set_option linter.unusedVariables false

theorem Ybad.info29 : (Ybad.prog.info? 29).map (fun i => (i.zero, i.size, i.bytes)) = some (some (.agg #[.int .i64 0, .int .i64 0, .int .i64 0, .int .i64 0, .slice none 0 0, .slice none 0 0]), 6, 80) := by kernel_rfl

/-- An empty part's cells. -/
def zeroPart : List Value := [.int .i64 0, .int .i64 0, .int .i64 0, .int .i64 0, .slice none 0 0, .slice none 0 0]

theorem cell_newN (w : World) (vs : List Value) (t : TypeId) : ∀ j u, vs[j]? = some u → (w.alloc (.cells vs.toArray t)).cell? ((⟨w.heap.size, 0, none⟩ : Addr).add j) = some u := by
  intro j u hj
  rw [Addr.add_lit]
  simp [hj]

/-- The members so far: t of them, in a row of the call's own. -/
structure Mem (w0 w : World) (P off N t : Nat) (ao : Option Addr) (cp : Nat) : Prop where
  ps : PS w0 w P N
  len : ∃ z, w.cell? ⟨P, off + 3, none⟩ = some (.int .i64 z)
  cell : w.cell? ⟨P, off + 5, none⟩ = some (.slice ao t cp)
  own : ∃ xs, w.ownsRow w0.heap.size 29 6 (.slice ao t cp) t xs

/-- .. with the row's block known: it lies above what was there; M: the row, k: how many parts lie in it. -/
structure Row (w0 w : World) (P off N M k cp : Nat) : Prop where
  ps : PS w0 w P N
  len : ∃ z, w.cell? ⟨P, off + 3, none⟩ = some (.int .i64 z)
  row : ∃ cs : Array Value, w.heap[M]? = some (.cells cs 29 (0, 0)) ∧ cs.size = cp * 6
  hM : w0.heap.size ≤ M
  hPM : P ≠ M
  fit : k ≤ cp ∧ cp ≤ maxLen

theorem Row.lt {w0 w : World} {P off N M k cp : Nat} (h : Row w0 w P off N M k cp) : M < w.heap.size := by
  obtain ⟨cs, hc, _⟩ := h.row
  exact (Array.getElem?_eq_some_iff.1 hc).1
theorem Row.below {w0 w w' : World} {P off N M k cp : Nat} (h : Row w0 w P off N M k cp) (hb : Below w.heap.size w w') : Row w0 w' P off N M k cp :=
  ⟨h.ps.below hb, by obtain ⟨z, hz⟩ := h.len; exact ⟨z, (hb.cell (p := ⟨P, off + 3, none⟩) h.ps.lt).trans hz⟩, by rw [hb.block M h.lt]; exact h.row, h.hM, h.hPM, h.fit⟩
/-- The part at M alone has turned. -/
theorem Row.inner {w0 w w' : World} {P off N M k cp : Nat} (h : Row w0 w P off N M k cp) (hb : PS w w' M (cp * 6)) : Row w0 w' P off N M k cp :=
  ⟨h.ps.other hb h.hM h.hPM, by obtain ⟨z, hz⟩ := h.len; exact ⟨z, (World.cell?_of_block (w := w) (a := ⟨P, off + 3, none⟩) (hb.block P h.ps.lt h.hPM)).trans hz⟩, hb.part, h.hM, h.hPM, h.fit⟩
theorem Row.self {w0 w : World} {P off N M k cp : Nat} (h : Row w0 w P off N M k cp) : PS w w M (cp * 6) := ⟨rfl, rfl, rfl, Nat.le_refl _, fun _ _ _ => rfl, h.row⟩
theorem Row.setM {w0 w : World} {P off N M k cp j : Nat} {v : Value} (h : Row w0 w P off N M k cp) : Row w0 (w.setCell ⟨M, j, none⟩ v) P off N M k cp := by
  obtain ⟨cs, hc, hN⟩ := h.row
  have hs : PS w (w.setCell ⟨M, j, none⟩ v) M (cp * 6) := ⟨rfl, rfl, rfl, by simp [World.setCell], fun i hi hiM => Below.heap_setCell w ⟨M, j, none⟩ v i hiM, ⟨cs.setIfInBounds j v, heap_setCell_same w M j cs 29 (0, 0) v hc, by simpa using hN⟩⟩
  exact h.inner hs
theorem Row.setP {w0 w : World} {P off N M k cp : Nat} {v : Value} (h : Row w0 w P off N M k cp) : Row w0 (w.setCell ⟨P, off + 5, none⟩ v) P off N M k cp := by
  obtain ⟨cs, hc, hN⟩ := h.ps.part
  refine ⟨⟨h.ps.os, h.ps.tape, h.ps.output, by simpa [World.setCell] using h.ps.size, fun i hi hiP => ?_, ⟨cs.setIfInBounds (off + 5) v, heap_setCell_same w P (off + 5) cs 29 (0, 0) v hc, by simpa using hN⟩⟩, ?_, ?_, h.hM, h.hPM, h.fit⟩
  · rw [Below.heap_setCell w ⟨P, off + 5, none⟩ v i hiP]; exact h.ps.block i hi hiP
  · obtain ⟨z, hz⟩ := h.len
    exact ⟨z, by rw [World.cell?_setCell_other _ _ _ _ (by simp)]; exact hz⟩
  · rw [Below.heap_setCell w ⟨P, off + 5, none⟩ v M (Ne.symm h.hPM)]; exact h.row
theorem Row.set {w0 w : World} {P off N M k cp : Nat} {a : Addr} {v : Value} (h : Row w0 w P off N M k cp) (ha : (∃ j, a = ⟨M, j, none⟩) ∨ a = ⟨P, off + 5, none⟩) : Row w0 (w.setCell a v) P off N M k cp := by
  rcases ha with ⟨j, rfl⟩ | rfl
  · exact h.setM
  · exact h.setP
theorem Row.free {w0 w : World} {P off N M k cp : Nat} (h : Row w0 w P off N M k cp) (j : Nat) : w.frozen? ⟨M, j, none⟩ = false := by
  obtain ⟨cs, hc, _⟩ := h.row
  exact frozen_of_row w M j cs 29 hc
theorem Row.cellAt {w0 w : World} {P off N M k cp : Nat} (h : Row w0 w P off N M k cp) (j : Nat) (hj : j < cp * 6) : ∃ v, w.cell? ⟨M, j, none⟩ = some v := by
  obtain ⟨cs, hc, hN⟩ := h.row
  exact ⟨cs[j]'(by omega), by rw [cell_of_row w M j cs 29 (0, 0) hc]; exact Array.getElem?_eq_getElem (by omega)⟩
theorem Row.mem {w0 w : World} {P off N M k cp : Nat} (h : Row w0 w P off N M k cp) (hc : w.cell? ⟨P, off + 5, none⟩ = some (.slice (some ⟨M, 0, none⟩) k cp)) : Mem w0 w P off N k (some ⟨M, 0, none⟩) cp := by
  obtain ⟨cs, hr, hN⟩ := h.row
  have h6 := h.fit.1
  refine ⟨h.ps, h.len, hc, ⟨cs.toList.take (k * 6), ⟨by simp; omega, .inr ⟨M, cp, cs, rfl, h.hM, hr, h.fit.1, h.fit.2, hN, rfl⟩⟩⟩⟩

/-- Behind the append: the row, and the new part's cells. -/
theorem row_made {w0 wr w1 : World} {P off N t cp M cp' : Nat} {ao : Option Addr} {xs : List Value} {o : Obj} (h : Mem w0 wr P off N t ao cp)
    (hown : w1.ownsRow w0.heap.size 29 6 (.slice (some ⟨M, 0, none⟩) (t + 1) cp') (t + 1) (xs ++ zeroPart)) (hxs : xs.length = t * 6) (hgrow : (wr.drew.alloc o).grownBy w1 (Value.slice ao t cp).ownBlock) (hP0 : P < w0.heap.size) (hown0 : wr.ownsRow w0.heap.size 29 6 (.slice ao t cp) t xs) :
    Row w0 w1 P off N M (t + 1) cp' ∧ w1.cell? ⟨P, off + 5, none⟩ = some (.slice ao t cp) ∧ w1.frozen? ⟨P, off + 5, none⟩ = false ∧ (∀ j, j < 6 → w1.cell? ⟨M, t * 6 + j, none⟩ = zeroPart[j]?) := by
  have hnp : some P ≠ (Value.slice ao t cp).ownBlock := by
    rcases hown0.2 with ⟨h', _⟩ | ⟨g', _, _, h', hg', _⟩
    · rw [h']; simp [Value.ownBlock]
    · rw [h']; simp [Value.ownBlock]; omega
  have hPw : P < wr.heap.size := h.ps.lt
  have hblk : w1.heap[P]? = wr.heap[P]? := by
    rw [hgrow.block P (by simp; omega) hnp]
    exact Below.heap_alloc wr.drew o P hPw
  have hsz := h.ps.size
  have hps1 : PS w0 w1 P N := by
    refine ⟨hgrow.os.trans h.ps.os, hgrow.tape.trans h.ps.tape, hgrow.output.trans h.ps.output, ?_, fun k hk hkP => ?_, by rw [hblk]; exact h.ps.part⟩
    · have := hgrow.size; simp at this; omega
    · have hne : some k ≠ (Value.slice ao t cp).ownBlock := by
        rcases hown0.2 with ⟨h', _⟩ | ⟨g', _, _, h', hg', _⟩
        · rw [h']; simp [Value.ownBlock]
        · rw [h']; simp [Value.ownBlock]; omega
      rw [hgrow.block k (by simp; omega) hne, Below.heap_alloc wr.drew o k (by show k < wr.heap.size; omega)]
      exact h.ps.block k hk hkP
  have hcell : ∀ j, w1.cell? ⟨P, j, none⟩ = wr.cell? ⟨P, j, none⟩ := fun j => World.cell?_of_block (w := wr) hblk
  refine ⟨⟨hps1, by obtain ⟨z, hz⟩ := h.len; exact ⟨z, (hcell _).trans hz⟩, ?_, ?_, ?_, ?_⟩, (hcell _).trans h.cell, hps1.free _, fun j hj => ?_⟩
  · rcases hown.2 with ⟨h', _⟩ | ⟨g', cap', cur, h', _, hg, _, _, hs, _⟩
    · simp at h'
    · simp only [Value.slice.injEq, Option.some.injEq, Addr.mk.injEq, and_true, true_and] at h'
      obtain ⟨rfl, rfl⟩ := h'
      exact ⟨cur, hg, hs⟩
  · rcases hown.2 with ⟨h', _⟩ | ⟨g', cap', cur, h', hb, _⟩
    · simp at h'
    · simp only [Value.slice.injEq, Option.some.injEq, Addr.mk.injEq, and_true, true_and] at h'
      obtain ⟨rfl, rfl⟩ := h'
      exact hb
  · rcases hown.2 with ⟨h', _⟩ | ⟨g', cap', cur, h', hb, _⟩
    · simp at h'
    · simp only [Value.slice.injEq, Option.some.injEq, Addr.mk.injEq, and_true, true_and] at h'
      obtain ⟨rfl, rfl⟩ := h'
      omega
  · rcases hown.2 with ⟨h', _⟩ | ⟨g', cap', cur, h', _, _, h1, h2, _⟩
    · simp at h'
    · simp only [Value.slice.injEq, Option.some.injEq, Addr.mk.injEq, and_true, true_and] at h'
      obtain ⟨rfl, rfl⟩ := h'
      exact ⟨h1, h2⟩
  · rw [hown.cellAt (t * 6 + j) (by omega), List.getElem?_append_right (by omega), hxs]
    congr 1
    omega
end Go.Proofs.YbulkxxiDoor
