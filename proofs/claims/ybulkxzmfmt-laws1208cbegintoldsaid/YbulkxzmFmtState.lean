/-
  THE TABLE's STATE, with no Go in sight, and what each write to memory does to it.
-/
import Derived.Test.YbulkxzmFmtMap
import Derived.Maps.AppendAt
import Derived.Deep.Draws
import Derived.OwnWalk
import Derived.Below
namespace Go.Proofs.YbulkxzmFmt
open Go.RowKit Go.Maps
set_option linter.unusedVariables false

/-- A transaction, as far as the road reads it. -/
structure Tx where
  name : ByteArray
  state : Int
  parent : Option Nat
  root : Option Nat
  depth : Int
  ts : Int
  drawn : Bool
  first : Option Nat
  last : Option Nat
  prev : Option Nat
  next : Option Nat
  begun : Int
  nth : Int

/-- A pointer to the head of a block. -/
def pv : Option Nat → Value
  | none => .pointer none
  | some b => .pointer (some ⟨b, 0, none⟩)

def txCell (r : Tx) : Nat → Option Value
  | 0 => some (.string r.name)
  | 1 => some (.int .u8 r.state)
  | 2 => some (pv r.parent)
  | 3 => some (pv r.root)
  | 4 => some (.int .i64 r.depth)
  | 5 => some (.int .u64 r.ts)
  | 6 => some (.bool r.drawn)
  | 23 => some (pv r.first)
  | 24 => some (pv r.last)
  | 25 => some (pv r.prev)
  | 26 => some (pv r.next)
  | 29 => some (.int .u64 r.begun)
  | 30 => some (.int .u64 r.nth)
  | _ => none

/-- The table. -/
structure LT where
  n : Nat
  D : DataW Unit
  S : Nat → Option Tx
  stamps : Int
  begun : Int
  active : Int

def ltCell (b : Nat) (st : LT) : Nat → Option Value
  | 0 => some (.map (some b))
  | 6 => some (.int .u64 st.stamps)
  | 27 => some (.int .u64 st.begun)
  | 41 => some (.int .u64 st.active)
  | _ => none

structure State (N : Nat) (w0 w : World) (L b : Nat) (st : LT) : Prop where
  below : Below N w0 w
  hN : N ≤ w.heap.size
  hL : N ≤ L
  hb : N ≤ b
  hLb : L ≠ b
  sL : L < w.heap.size
  sb : b < w.heap.size
  lt : ∀ j v, ltCell b st j = some v → w.cell? ⟨L, j, none⟩ = some v
  ltf : ∀ j, w.frozen? ⟨L, j, none⟩ = false
  own : Own w b st.n st.D
  tx : ∀ B r, st.S B = some r → N ≤ B ∧ B ≠ L ∧ B ≠ b ∧ B < w.heap.size ∧ (∀ j, w.frozen? ⟨B, j, none⟩ = false) ∧ ∀ j v, txCell r j = some v → w.cell? ⟨B, j, none⟩ = some v

/-- One transaction is turned. -/
def LT.set (st : LT) (B : Nat) (f : Tx → Tx) : LT := { st with S := fun x => if x = B then (st.S x).map f else st.S x }
/-- A new one. -/
def LT.new (st : LT) (B : Nat) (r : Tx) : LT := { st with S := fun x => if x = B then some r else st.S x }

variable {N : Nat} {w0 w : World} {L b : Nat} {st : LT}

theorem State.alloc (h : State N w0 w L b st) (o : Obj) : State N w0 (w.alloc o) L b st where
  below := h.below.alloc h.hN o
  hN := by have := h.hN; simp; omega
  hL := h.hL
  hb := h.hb
  hLb := h.hLb
  sL := by have := h.sL; simp; omega
  sb := by have := h.sb; simp; omega
  lt := fun j v hj => (World.cell?_alloc_past o L j h.sL).trans (h.lt j v hj)
  ltf := fun j => (World.frozen?_alloc_past o L j h.sL).trans (h.ltf j)
  own := h.own.alloc o
  tx := fun B r hB => by
    obtain ⟨h1, h2, h3, h4, h5, h6⟩ := h.tx B r hB
    exact ⟨h1, h2, h3, by simp; omega, fun j => (World.frozen?_alloc_past o B j h4).trans (h5 j), fun j v hv => (World.cell?_alloc_past o B j h4).trans (h6 j v hv)⟩

theorem State.drewN (h : State N w0 w L b st) (k : Nat) : State N w0 (w.drewN k) L b st where
  below := ⟨h.below.os, h.below.tape, h.below.output, h.below.size, h.below.block⟩
  hN := h.hN
  hL := h.hL
  hb := h.hb
  hLb := h.hLb
  sL := h.sL
  sb := h.sb
  lt := h.lt
  ltf := h.ltf
  own := h.own
  tx := h.tx

theorem State.drew (h : State N w0 w L b st) : State N w0 w.drew L b st where
  below := h.below.drew
  hN := h.hN
  hL := h.hL
  hb := h.hb
  hLb := h.hLb
  sL := h.sL
  sb := h.sb
  lt := h.lt
  ltf := h.ltf
  own := h.own
  tx := h.tx

/-- What stands above all blocks may turn. -/
theorem State.above {w' : World} (h : State N w0 w L b st) (hb : Below w.heap.size w w') : State N w0 w' L b st where
  below := h.below.trans (hb.mono h.hN)
  hN := Nat.le_trans h.hN hb.size
  hL := h.hL
  hb := h.hb
  hLb := h.hLb
  sL := Nat.lt_of_lt_of_le h.sL hb.size
  sb := Nat.lt_of_lt_of_le h.sb hb.size
  lt := fun j v hj => (hb.cell (p := ⟨L, j, none⟩) h.sL).trans (h.lt j v hj)
  ltf := fun j => (hb.frozen (p := ⟨L, j, none⟩) h.sL).trans (h.ltf j)
  own := h.own.below hb h.sb
  tx := fun B r hB => by
    obtain ⟨h1, h2, h3, h4, h5, h6⟩ := h.tx B r hB
    exact ⟨h1, h2, h3, Nat.lt_of_lt_of_le h4 hb.size, fun j => (hb.frozen (p := ⟨B, j, none⟩) h4).trans (h5 j), fun j v hv => (hb.cell (p := ⟨B, j, none⟩) h4).trans (h6 j v hv)⟩

/-- A field of the table is written. -/
theorem State.setL (h : State N w0 w L b st) (j : Nat) (v : Value) (st' : LT) (hn : st'.n = st.n) (hD : st'.D = st.D) (hS : st'.S = st.S) (hs : (ltCell b st j).isSome) (hj : ltCell b st' j = some v) (ho : ∀ i, i ≠ j → ltCell b st' i = ltCell b st i) : State N w0 (w.setCell ⟨L, j, none⟩ v) L b st' where
  below := h.below.setCell h.hL v
  hN := by simpa using h.hN
  hL := h.hL
  hb := h.hb
  hLb := h.hLb
  sL := by simpa using h.sL
  sb := by simpa using h.sb
  lt := fun i u hi => by
    by_cases e : i = j
    · subst e
      obtain ⟨x, hx⟩ := Option.isSome_iff_exists.1 hs
      rw [World.cell?_setCell_same _ _ _ (h.lt i x hx), ← hj, hi]
    · rw [World.cell?_setCell_other w ⟨L, j, none⟩ ⟨L, i, none⟩ v (fun e0 => by simp at e0 <;> omega)]
      exact h.lt i u (by rw [← ho i e]; exact hi)
  ltf := fun i => by simpa using h.ltf i
  own := by rw [hn, hD]; exact h.own.setCell (fun e => h.hLb e.symm) v
  tx := fun B r hB => by
    rw [hS] at hB
    obtain ⟨h1, h2, h3, h4, h5, h6⟩ := h.tx B r hB
    refine ⟨h1, h2, h3, by simpa using h4, fun i => by simpa using h5 i, fun i u hu => ?_⟩
    rw [World.cell?_setCell_other w ⟨L, j, none⟩ ⟨B, i, none⟩ v (fun e0 => by simp at e0 <;> omega)]
    exact h6 i u hu

/-- A field of a transaction is written. -/
theorem State.setT (h : State N w0 w L b st) (B : Nat) (j : Nat) (v : Value) (f : Tx → Tx) (hB : ∃ r, st.S B = some r) (hf : ∀ r, (txCell r j).isSome ∧ txCell (f r) j = some v ∧ ∀ i, i ≠ j → txCell (f r) i = txCell r i) : State N w0 (w.setCell ⟨B, j, none⟩ v) L b (st.set B f) := by
  obtain ⟨r0, hB⟩ := hB
  obtain ⟨g1, g2, g3, g4, g5, g6⟩ := h.tx B r0 hB
  exact {
    below := h.below.setCell g1 v
    hN := by simpa using h.hN
    hL := h.hL
    hb := h.hb
    hLb := h.hLb
    sL := by simpa using h.sL
    sb := by simpa using h.sb
    lt := fun i u hi => by
      rw [World.cell?_setCell_other w ⟨B, j, none⟩ ⟨L, i, none⟩ v (fun e0 => by simp at e0 <;> omega)]
      exact h.lt i u hi
    ltf := fun i => by simpa using h.ltf i
    own := h.own.setCell (fun e => g3 e.symm) v
    tx := fun C r hC => by
      simp only [LT.set] at hC
      by_cases e : C = B
      · subst e
        rw [if_pos rfl, hB] at hC
        simp at hC
        subst hC
        refine ⟨g1, g2, g3, by simpa using g4, fun i => by simpa using g5 i, fun i u hu => ?_⟩
        by_cases ei : i = j
        · subst ei
          obtain ⟨x, hx⟩ := Option.isSome_iff_exists.1 (hf r0).1
          rw [World.cell?_setCell_same _ _ _ (g6 i x hx), ← (hf r0).2.1, hu]
        · rw [World.cell?_setCell_other w ⟨C, j, none⟩ ⟨C, i, none⟩ v (fun e0 => by simp at e0 <;> omega)]
          exact g6 i u (by rw [← (hf r0).2.2 i ei]; exact hu)
      · rw [if_neg e] at hC
        obtain ⟨h1, h2, h3, h4, h5, h6⟩ := h.tx C r hC
        refine ⟨h1, h2, h3, by simpa using h4, fun i => by simpa using h5 i, fun i u hu => ?_⟩
        rw [World.cell?_setCell_other w ⟨B, j, none⟩ ⟨C, i, none⟩ v (fun e0 => by simp at e0 <;> omega)]
        exact h6 i u hu }

/-- A transaction is made. -/
theorem State.mk' (h : State N w0 w L b st) (c : Array Value) (t : TypeId) (r : Tx) (hr : ∀ j v, txCell r j = some v → c[j]? = some v) : State N w0 (w.alloc (.cells c t)) L b (st.new w.heap.size r) := by
  have k := h.alloc (.cells c t)
  exact {
    below := k.below
    hN := k.hN
    hL := h.hL
    hb := h.hb
    hLb := h.hLb
    sL := k.sL
    sb := k.sb
    lt := k.lt
    ltf := k.ltf
    own := k.own
    tx := fun C r' hC => by
      simp only [LT.new] at hC
      by_cases e : C = w.heap.size
      · subst e
        rw [if_pos rfl] at hC
        simp at hC
        subst hC
        have := h.sL
        have := h.sb
        exact ⟨h.hN, by omega, by omega, by simp, fun i => World.frozen?_alloc_at c t _ i rfl, fun i u hu => by rw [World.cell?_alloc_at c t _ i rfl]; exact hr i u hu⟩
      · rw [if_neg e] at hC
        exact k.tx C r' hC }

/-- The map is written. -/
theorem State.put {w' : World} (h : State N w0 w L b st) (n' : Nat) (D' : DataW Unit) (hg : w.grownBy w' (some b)) (ho : Own w' b n' D') : State N w0 w' L b { st with n := n', D := D' } where
  below := h.below.grown hg h.hN (fun k hk => by cases hk; exact h.hb)
  hN := Nat.le_trans h.hN hg.size
  hL := h.hL
  hb := h.hb
  hLb := h.hLb
  sL := Nat.lt_of_lt_of_le h.sL hg.size
  sb := Nat.lt_of_lt_of_le h.sb hg.size
  lt := fun j v hj => hg.cell (h.lt j v hj) (by simpa using h.hLb)
  ltf := fun j => (World.frozen?_of_block (w := w) (a := ⟨L, j, none⟩) (hg.block L h.sL (by simpa using h.hLb))).trans (h.ltf j)
  own := ho
  tx := fun B r hB => by
    obtain ⟨h1, h2, h3, h4, h5, h6⟩ := h.tx B r hB
    exact ⟨h1, h2, h3, Nat.lt_of_lt_of_le h4 hg.size, fun j => (World.frozen?_of_block (w := w) (a := ⟨B, j, none⟩) (hg.block B h4 (by simpa using h3))).trans (h5 j), fun j v hv => hg.cell (h6 j v hv) (by simpa using h3)⟩

theorem State.cellL (h : State N w0 w L b st) {j : Nat} {v : Value} (hj : ltCell b st j = some v) : w.cell? ⟨L, j, none⟩ = some v := h.lt j v hj
theorem State.cellT (h : State N w0 w L b st) {B : Nat} {r : Tx} (hB : st.S B = some r) {j : Nat} {v : Value} (hj : txCell r j = some v) : w.cell? ⟨B, j, none⟩ = some v := (h.tx B r hB).2.2.2.2.2 j v hj
theorem State.frozT (h : State N w0 w L b st) {B : Nat} {r : Tx} (hB : st.S B = some r) (j : Nat) : w.frozen? ⟨B, j, none⟩ = false := (h.tx B r hB).2.2.2.2.1 j
theorem State.sizeT (h : State N w0 w L b st) {B : Nat} {r : Tx} (hB : st.S B = some r) : B < w.heap.size := (h.tx B r hB).2.2.2.1
end Go.Proofs.YbulkxzmFmt
