/-
  Equal values compare equal: two ids, two pointers.
-/
import Derived.Test.YbulkxyyAfter
import Derived.WalkKit
import Derived.ChangeKeysEq
import Derived.LaidEqlPtr
namespace Go.Proofs.Ybulkxyy
open Go.RowKit Go.Maps
theorem info9 : ∃ i, Yba.prog.info? 9 = some i := by
  have h : (Yba.prog.info? 9).isSome = true := by kernel_rfl
  exact Option.isSome_iff_exists.1 h
theorem info34 : ∃ i, Yba.prog.info? 34 = some i := by
  have h : (Yba.prog.info? 34).isSome = true := by kernel_rfl
  exact Option.isSome_iff_exists.1 h
theorem cells9 : Yba.prog.cellsOf 9 = 1 := by kernel_rfl
theorem part0 (s0 s1 : ByteArray) (w : World) : (part 9 #[.string s0, .string s1] 0).run Yba.prog w = .ok (.string s0) w := by kernel_rfl
theorem part1 (s0 s1 : ByteArray) (w : World) : (part 9 #[.string s0, .string s1] 1).run Yba.prog w = .ok (.string s1) w := by kernel_rfl
theorem agg_eq (s0 s1 : ByteArray) (w : World) : (Op.equalIn 10000 25 (.agg #[.string s0, .string s1]) (.agg #[.string s0, .string s1])).run Yba.prog w = .ok true w := by
  obtain ⟨i, hi⟩ := info9
  rw [run_equalIn_array (P := Yba.prog) w 9999 _ _ Yba.underlying25 hi, cells9]
  simp [List.range, List.range.loop, Op.eqItems, part0, part1, run_equalIn_string _ _ _ _ _ Yba.underlying9]
theorem ptr_eq (x : Option Addr) (w : World) : (Op.equalIn 10000 24 (.pointer x) (.pointer x)).run Yba.prog w = .ok true w := by
  obtain ⟨j, hj⟩ := info34
  have h : ∀ d : Nat, (Op.equalIn (d + 1) 24 (.pointer x) (.pointer x)).run Yba.prog w = .ok true w := fun d => by
    cases x with
    | none => simp [Op.equalIn, run_underlying Yba.underlying24, sizeOf, typeInfo]
    | some a => simp [Op.equalIn, run_underlying Yba.underlying24, sizeOf, typeInfo, hj, run_sameAddr_same]
  exact h 9999
theorem ptr_neq (x : Option Addr) (w : World) : (binOp .neq 24 (.pointer x) (.pointer x)).run Yba.prog w = .ok (.bool false) w := by
  simp only [binOp]
  simp [Op.equal, Op.maxDepth, ptr_eq x w]
end Go.Proofs.Ybulkxyy
