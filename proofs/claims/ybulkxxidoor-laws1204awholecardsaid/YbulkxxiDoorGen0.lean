/-
  THE GENERATOR: what its rounds do to memory, outside the walk.
-/
import Derived.Test.YbulkxxiDoorVal
import Derived.Lib.AppendStr
import Derived.OwnWalk
import Derived.Deep.CutRange
namespace Go.Proofs.YbulkxxiDoor
open Go.RowKit
set_option linter.unusedVariables false

theorem Ybad.info5 : (Ybad.prog.info? 5).map (fun i => (i.zero, i.size, i.bytes)) = some (some (.int .u8 0), 1, 1) := by kernel_rfl

/-- BELOW base NOTHING HAS TURNED BUT THE COUNTER AT K, which is at most L. -/
structure KS (w0 w : World) (K base L : Nat) : Prop where
  os : w.os = w0.os
  tape : w.tape = w0.tape
  output : w.output = w0.output
  size : w0.heap.size ≤ w.heap.size
  block : ∀ i, i < base → i ≠ K → w.heap[i]? = w0.heap[i]?
  cell : ∃ z : Nat, z ≤ L ∧ w.heap[K]? = some (.cells #[.int .i64 z] 3 (0, 0))

theorem KS.below {w0 w w' : World} {K base L : Nat} (h : KS w0 w K base L) (hK : K < base) (hb : Below base w w') : KS w0 w' K base L :=
  ⟨hb.os.trans h.os, hb.tape.trans h.tape, hb.output.trans h.output, Nat.le_trans h.size hb.size, fun i hi hk => (hb.block i hi).trans (h.block i hi hk), by rw [hb.block K hK]; exact h.cell⟩
theorem KS.trans {w0 w1 w2 : World} {K base L : Nat} (h : KS w0 w1 K base L) (k : KS w1 w2 K base L) : KS w0 w2 K base L :=
  ⟨k.os.trans h.os, k.tape.trans h.tape, k.output.trans h.output, Nat.le_trans h.size k.size, fun i hi hk => (k.block i hi hk).trans (h.block i hi hk), k.cell⟩
theorem KS.setK {w0 w : World} {K base L z : Nat} (h : KS w0 w K base L) (hz : z ≤ L) : KS w0 (w.setCell ⟨K, 0, none⟩ (.int .i64 z)) K base L := by
  obtain ⟨y, _, hc⟩ := h.cell
  refine ⟨h.os, h.tape, h.output, by simpa [World.setCell] using h.size, fun i hi hk => ?_, ⟨z, hz, ?_⟩⟩
  · rw [Below.heap_setCell w ⟨K, 0, none⟩ _ i hk]; exact h.block i hi hk
  · simp only [World.setCell, Array.getElem?_modify, hc]
    simp

/-- The operations' slice, as the walk reads it. -/
def Ops (w : World) (K base : Nat) (a : Option Addr) (len : Nat) (z : List Int) : Prop :=
  0 < len → ∃ b off, a = some ⟨b, off, none⟩ ∧ b < base ∧ b ≠ K ∧ ∀ j, j < len → w.cell? ⟨b, off + j, none⟩ = some (.int .u8 (z.getD j 0)) ∧ 0 ≤ z.getD j 0 ∧ z.getD j 0 ≤ 255
theorem Ops.ks {w0 w : World} {K base L len : Nat} {a : Option Addr} {z : List Int} (h : Ops w0 K base a len z) (k : KS w0 w K base L) : Ops w K base a len z := fun hl => by
  obtain ⟨b, off, ha, hb, hbK, hc⟩ := h hl
  exact ⟨b, off, ha, hb, hbK, fun j hj => ⟨(World.cell?_of_block (w := w0) (a := ⟨b, off + j, none⟩) (k.block b hb hbK)).trans (hc j hj).1, (hc j hj).2⟩⟩

/-- WHAT THE GENERATOR DOES, f containers still allowed. -/
def GenOK (f : Nat) : Prop := ∀ (a : Option Addr) (len cap : Nat) (z : List Int) (K base nb : Nat) (bv : Value) (xs : List Int) (d : Int) (w : World),
  Ops w K base a len z → len ≤ 9223372036854775807 → K < base → base ≤ w.heap.size → (∃ y : Nat, y ≤ len ∧ w.heap[K]? = some (.cells #[.int .i64 y] 3 (0, 0))) → w.ownsRow base 5 1 bv nb (xs.map (Value.int .u8)) → nb + lim f ≤ 1000000 → 0 ≤ d → d + f = 4 →
  Calls Ybad.prog 5 #[.slice a len cap, .pointer (some ⟨K, 0, none⟩), .int .i64 d, bv] w fun e w' => ∃ v' bs m num, e = .returned (.tuple #[v', .int .i64 m, .bool num]) ∧ Val f bs m ∧ w'.ownsRow base 5 1 v' (nb + bs.length) ((xs ++ bs).map (Value.int .u8)) ∧ KS w w' K base len

/-- A string's bytes, as numbers. -/
theorem strCells_map (s : ByteArray) (bs : List Int) (h : s.data.toList.map (fun b => (b.toNat : Int)) = bs) : Lib.strCells s = bs.map (Value.int .u8) := by
  rw [← h, Lib.strCells, List.map_map]; rfl

/-- Behind 'append(b, s...)'. -/
theorem own_str {w : World} {base nb : Nat} {v : Value} {xs bs : List Int} {s : ByteArray} (h : w.ownsRow base 5 1 v (nb + s.size) (xs.map (Value.int .u8) ++ Lib.strCells s)) (hs : s.data.toList.map (fun b => (b.toNat : Int)) = bs) : w.ownsRow base 5 1 v (nb + bs.length) ((xs ++ bs).map (Value.int .u8)) := by
  have hl : s.size = bs.length := by rw [← hs]; simp
  rw [strCells_map s bs hs, hl] at h
  rw [List.map_append]; exact h
/-- Behind 'append(b, c)'. -/
theorem own_one {w : World} {base nb : Nat} {v : Value} {xs : List Int} {c : Int} (h : w.ownsRow base 5 1 v (nb + 1) (xs.map (Value.int .u8) ++ [Value.int .u8 c])) : w.ownsRow base 5 1 v (nb + 1) ((xs ++ [c]).map (Value.int .u8)) := by
  rw [List.map_append]; exact h

theorem grown_below {w w' : World} {base n : Nat} {v : Value} {xs : List Value} {e size : Nat} (h : w.ownsRow base e size v n xs) (hg : w.grownBy w' v.ownBlock) (hb : base ≤ w.heap.size) : Below base w w' :=
  (Below.refl _ _).grown hg hb (fun k hk => (h.lt k hk).1)

theorem val_leaf {f : Nat} {bs : List Int} (h : bs ∈ leaves) : Val f bs (-1) := by
  cases f
  · exact ⟨h, rfl⟩
  · exact .inl ⟨h, rfl⟩

theorem join_bound (o : Bool) (f : Nat) (els : List (List Int)) (h : ∀ e ∈ els, ∃ m, Val f e m) (k : Nat) (hk : els.length ≤ k) : (join o els).length ≤ k * (lim f + 7) :=
  Nat.le_trans (join_len o (lim f) els (fun e he => by obtain ⟨m, hv⟩ := h e he; exact val_len f e m hv)) (Nat.mul_le_mul_right _ hk)

/-- One element more, the first. -/
theorem own_first {w : World} {base nb : Nat} {v : Value} {o : Bool} {xs bs : List Int} {c : Int} (h : w.ownsRow base 5 1 v (nb + 1 + (key o).length + bs.length) ((xs ++ [c] ++ key o ++ bs).map (Value.int .u8))) :
    w.ownsRow base 5 1 v (nb + 1 + (join o ([] ++ [bs])).length) ((xs ++ c :: join o ([] ++ [bs])).map (Value.int .u8)) := by
  have e1 : join o ([] ++ [bs]) = key o ++ bs := by simp [join]
  rw [e1, List.length_append, ← Nat.add_assoc]
  rw [show xs ++ c :: (key o ++ bs) = xs ++ [c] ++ key o ++ bs by simp]
  exact h
/-- .. and another. -/
theorem own_more {w : World} {base nb : Nat} {v : Value} {o : Bool} {els : List (List Int)} {xs bs : List Int} {c : Int} (hne : els ≠ []) (h : w.ownsRow base 5 1 v (nb + 1 + (join o els).length + 2 + (key o).length + bs.length) ((xs ++ c :: join o els ++ [44, sep o] ++ key o ++ bs).map (Value.int .u8))) :
    w.ownsRow base 5 1 v (nb + 1 + (join o (els ++ [bs])).length) ((xs ++ c :: join o (els ++ [bs])).map (Value.int .u8)) := by
  rw [join_snoc, if_neg hne]
  have e1 : nb + 1 + (join o els ++ [44, sep o] ++ (key o ++ bs)).length = nb + 1 + (join o els).length + 2 + (key o).length + bs.length := by simp; omega
  rw [e1]
  rw [show xs ++ c :: (join o els ++ [44, sep o] ++ (key o ++ bs)) = xs ++ c :: join o els ++ [44, sep o] ++ key o ++ bs by simp]
  exact h
theorem own_first_arr {w : World} {base nb : Nat} {v : Value} {xs bs : List Int} {c : Int} (h : w.ownsRow base 5 1 v (nb + 1 + bs.length) ((xs ++ [c] ++ bs).map (Value.int .u8))) :
    w.ownsRow base 5 1 v (nb + 1 + (join false ([] ++ [bs])).length) ((xs ++ c :: join false ([] ++ [bs])).map (Value.int .u8)) := by
  have e1 : join false ([] ++ [bs]) = bs := by simp [join, key]
  rw [e1, show xs ++ c :: bs = xs ++ [c] ++ bs by simp]
  exact h
theorem own_more_arr {w : World} {base nb : Nat} {v : Value} {els : List (List Int)} {xs bs : List Int} {c : Int} (hne : els ≠ []) (h : w.ownsRow base 5 1 v (nb + 1 + (join false els).length + 2 + bs.length) ((xs ++ c :: join false els ++ [44, 32] ++ bs).map (Value.int .u8))) :
    w.ownsRow base 5 1 v (nb + 1 + (join false (els ++ [bs])).length) ((xs ++ c :: join false (els ++ [bs])).map (Value.int .u8)) := by
  refine own_more (o := false) hne ?_
  have e : xs ++ c :: join false els ++ [44, sep false] ++ key false ++ bs = xs ++ c :: join false els ++ [44, 32] ++ bs := by simp [key, sep]
  rw [e]
  exact h
/-- The closing byte. -/
theorem own_close {w : World} {base nb : Nat} {v : Value} {o : Bool} {els : List (List Int)} {xs : List Int} (h : w.ownsRow base 5 1 v (nb + 1 + (join o els).length + 1) ((xs ++ opn o :: join o els ++ [cls o]).map (Value.int .u8))) :
    w.ownsRow base 5 1 v (nb + (cont o els).length) ((xs ++ cont o els).map (Value.int .u8)) := by
  unfold cont
  have e1 : nb + (opn o :: (join o els ++ [cls o])).length = nb + 1 + (join o els).length + 1 := by simp; omega
  rw [e1]
  rw [show xs ++ opn o :: (join o els ++ [cls o]) = xs ++ opn o :: join o els ++ [cls o] by simp]
  exact h
theorem val_cont {f : Nat} {o : Bool} {els : List (List Int)} (h : ∀ e ∈ els, ∃ m, Val f e m) (h3 : els.length ≤ 3) : Val (f + 1) (cont o els) els.length := .inr ⟨o, els, rfl, rfl, h3, h⟩
theorem cell_newG (w : World) (v : Value) (t : TypeId) : ∀ j u, [v][j]? = some u → (w.alloc (.cells #[v] t)).cell? ((⟨w.heap.size, 0, none⟩ : Addr).add j) = some u := by
  intro j u hj
  match j, hj with
  | 0, hj => simp at hj; subst hj; simp [Addr.add]
end Go.Proofs.YbulkxxiDoor
