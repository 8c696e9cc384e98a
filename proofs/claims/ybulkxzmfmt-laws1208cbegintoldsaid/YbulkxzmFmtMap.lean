/-
  A map from strings to pointers that the call itself makes: the laws at its operations.
-/
import Derived.Test.YbulkxzmFmtRows
import Derived.WalkKit
import Derived.ProofKit
import Derived.OpenShut
import Derived.ShutString
import Derived.WalkSmall
import Derived.Maps.Own
import Derived.Maps.OwnOps
import Derived.Maps.OwnSet
namespace Go.Proofs.YbulkxzmFmt
open Go.RowKit Go.Maps Go.WideMaps Go.WideElems
set_option linter.unusedVariables false

theorem law : Keyed Ybaf.prog 9 := string_keyed Ybaf.underlying9
theorem zeroE (w : World) : (zeroValue 66).run Ybaf.prog w = .ok (.pointer none) w := by kernel_rfl

/-- A pointer to the head of a block reads as that block's number. -/
def ptrElem : Value → Option (DataW Unit × List MemPlace)
  | .pointer none => some (.nil, [])
  | .pointer (some ⟨b, 0, none⟩) => some (.lit (.int .i64 b), [])
  | _ => none
def ptrOf : DataW Unit → Value
  | .lit (.int .i64 b) => .pointer (some ⟨b.toNat, 0, none⟩)
  | _ => .pointer none
theorem ptrElem_inv {v : Value} {d : DataW Unit} {ps : List MemPlace} (h : ptrElem v = some (d, ps)) : v = ptrOf d := by
  unfold ptrElem at h
  split at h
  · simp at h; obtain ⟨rfl, _⟩ := h; rfl
  · simp at h; obtain ⟨rfl, _⟩ := h; simp [ptrOf]
  · simp at h
theorem ptrElem_mk (b : Nat) : ptrElem (.pointer (some ⟨b, 0, none⟩)) = some (.lit (.int .i64 b), []) := rfl

/-- The map. -/
def Own (w : World) (b n : Nat) (D : DataW Unit) : Prop := w.ownsMap Ybaf.prog 9 ptrElem b n D

section
variable (w : World) {ops : Array Oper} {rest : List Oper} {o : Oper} {a : Act} {Q : Exit → Act → World → Prop}

/-- 'v, ok := m[k]'. -/
theorem look_ok (hg : o.guard = none) (m x : Operand) (hop : o.op = Op.lookup 67 m x true) (b n : Nat) (D : DataW Unit) (hm : a.eval m = .map (some b)) (hown : Own w b n D) (s : ByteArray) (hx : a.eval x = .string s) (hs : s.size ≤ maxLen)
    (hK : wpList Ybaf.prog ops Q rest (a.put o.dst (.tuple #[ptrOf (D.atKey (.string s.data.toList) .nil), .bool (Maps.has D (.string s.data.toList))])) w) : wpList Ybaf.prog ops Q (o :: rest) a w := by
  refine wpList_lookup_own_ok w hg m x 67 hop 9 66 law Ybaf.underlying67 ptrElem (zeroE w) .nil [] rfl b n D hm hown (.string s) _ hx (keyOf_string_mk Ybaf.underlying9 hs) fun v ps hv => ?_
  rw [ptrElem_inv hv]
  exact hK

/-- 'm[k]'. -/
theorem look (hg : o.guard = none) (m x : Operand) (hop : o.op = Op.lookup 67 m x false) (b n : Nat) (D : DataW Unit) (hm : a.eval m = .map (some b)) (hown : Own w b n D) (s : ByteArray) (hx : a.eval x = .string s) (hs : s.size ≤ maxLen)
    (hK : wpList Ybaf.prog ops Q rest (a.put o.dst (ptrOf (D.atKey (.string s.data.toList) .nil))) w) : wpList Ybaf.prog ops Q (o :: rest) a w := by
  refine wpList_plain hg fun K' hK' => ?_
  obtain ⟨v, ps, hrun, hv⟩ := World.ownsMap.lookup hown law Ybaf.underlying67 (zeroE w) (zd := .nil) (zp := []) rfl (keyOf_string_mk Ybaf.underlying9 hs)
  have hv' := ptrElem_inv hv
  subst hv'
  unfold Oper.wp
  simp [execOp, hop, hm, hx, hrun, Result.andThen]
  exact hK' _ _ hK

/-- 'm[k] = p'. -/
theorem put (hg : o.guard = none) (m x v : Operand) (hop : o.op = Op.mapUpdate 67 m x v) (b n : Nat) (D : DataW Unit) (hm : a.eval m = .map (some b)) (hown : Own w b n D) (hn : n < maxLen) (s : ByteArray) (hx : a.eval x = .string s) (hs : s.size ≤ maxLen) (p : Nat) (hv : a.eval v = .pointer (some ⟨p, 0, none⟩))
    (hK : ∀ w', Own w' b (n + 1) (D.put (.string s.data.toList) (.lit (.int .i64 p))) → w.grownBy w' (some b) → wpList Ybaf.prog ops Q rest (a.put o.dst undef) w') : wpList Ybaf.prog ops Q (o :: rest) a w :=
  wpList_mapUpdate_own w hg m x v 67 hop 9 66 law Ybaf.underlying67 ptrElem b n D hm hown hn (.string s) _ _ hx hv (keyOf_string_mk Ybaf.underlying9 hs) _ [] (ptrElem_mk p) hK

/-- 'delete(m, k)'. -/
theorem del (hg : o.guard = none) (m x : Operand) (hop : o.op = Op.call { callee := Callee.builtin Builtin.delete, args := #[m, x], argTypes := #[67, 9] }) (b n : Nat) (D : DataW Unit) (hm : a.eval m = .map (some b)) (hown : Own w b n D) (s : ByteArray) (hx : a.eval x = .string s) (hs : s.size ≤ maxLen)
    (hK : ∀ w', Own w' b n (D.del (.string s.data.toList)) → w.grownBy w' (some b) → wpList Ybaf.prog ops Q rest (a.put o.dst (.tuple #[])) w') : wpList Ybaf.prog ops Q (o :: rest) a w :=
  wpList_delete_own w hg m x 67 9 hop 66 law Ybaf.underlying67 ptrElem b n D hm hown (.string s) _ hx (keyOf_string_mk Ybaf.underlying9 hs) fun w' h1 h2 => hK w' h1 h2.grown

/-- 'len(m)'. -/
theorem lenM (hg : o.guard = none) (m : Operand) (hop : o.op = Op.call { callee := Callee.builtin Builtin.len, args := #[m], argTypes := #[67] }) (b n : Nat) (D : DataW Unit) (hm : a.eval m = .map (some b)) (hown : Own w b n D)
    (hK : wpList Ybaf.prog ops Q rest (a.put o.dst (.int .i64 (Maps.size D))) w) : wpList Ybaf.prog ops Q (o :: rest) a w :=
  wpList_len_own w hg m 67 hop 9 66 Ybaf.underlying67 ptrElem b n D hm hown hK
end

theorem Own.kept {w w' : World} {b n : Nat} {D : DataW Unit} {row : Option Nat} (h : Own w b n D) (hg : w.grownBy w' row) (hne : some b ≠ row) : Own w' b n D := World.ownsMap.kept h hg hne
theorem Own.alloc {w : World} {b n : Nat} {D : DataW Unit} (h : Own w b n D) (o : Obj) : Own (w.alloc o) b n D := World.ownsMap.alloc h o
theorem Own.setCell {w : World} {b n : Nat} {D : DataW Unit} (h : Own w b n D) {a : Addr} (ha : b ≠ a.block) (u : Value) : Own (w.setCell a u) b n D := World.ownsMap.setCell h ha u
theorem Own.below {w w' : World} {b n : Nat} {D : DataW Unit} {B : Nat} (h : Own w b n D) (hb : Below B w w') (hB : b < B) : Own w' b n D := by
  obtain ⟨es, clock, h1, h2⟩ := h
  exact ⟨es, clock, (hb.block b hB).trans h1, h2⟩
theorem Own.tidy {w : World} {b n : Nat} {D : DataW Unit} (h : Own w b n D) : Tidy D := World.ownsMap.tidy h law
theorem Own.isMap {w : World} {b n : Nat} {D : DataW Unit} (h : Own w b n D) : IsMap D := World.ownsMap.isMap h
theorem Own.size_le {w : World} {b n : Nat} {D : DataW Unit} (h : Own w b n D) : Maps.size D ≤ n := World.ownsMap.size_le h
end Go.Proofs.YbulkxzmFmt
