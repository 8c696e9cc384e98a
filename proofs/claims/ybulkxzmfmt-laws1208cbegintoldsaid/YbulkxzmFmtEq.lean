/-
  Equal values compare equal: two ages, two pointers.
-/
import Derived.Test.YbulkxzmFmtPlain
import Derived.ChangeKeysEq
import Derived.LaidEqlPtr
namespace Go.Proofs.YbulkxzmFmt
open Go.RowKit Go.Maps
theorem info101 : ∃ i, Ybaf.prog.info? 101 = some i := by
  have h : (Ybaf.prog.info? 101).isSome = true := by kernel_rfl
  exact Option.isSome_iff_exists.1 h
theorem ptr_eq (x : Option Addr) (w : World) : (Op.equalIn 10000 66 (.pointer x) (.pointer x)).run Ybaf.prog w = .ok true w := by
  obtain ⟨j, hj⟩ := info101
  have h : ∀ d : Nat, (Op.equalIn (d + 1) 66 (.pointer x) (.pointer x)).run Ybaf.prog w = .ok true w := fun d => by
    cases x with
    | none => simp [Op.equalIn, run_underlying Ybaf.underlying66, sizeOf, typeInfo]
    | some a => simp [Op.equalIn, run_underlying Ybaf.underlying66, sizeOf, typeInfo, hj, run_sameAddr_same]
  exact h 9999
theorem ptr_neq (x : Option Addr) (w : World) : (binOp .neq 66 (.pointer x) (.pointer x)).run Ybaf.prog w = .ok (.bool false) w := by
  simp only [binOp]
  simp [Op.equal, Op.maxDepth, ptr_eq x w]
theorem ptr_eql (x : Option Addr) (w : World) : (binOp .eql 66 (.pointer x) (.pointer x)).run Ybaf.prog w = .ok (.bool true) w := by
  simp only [binOp]
  simp [Op.equal, Op.maxDepth, ptr_eq x w]
theorem wrap_v (v : Nat) (h : v ≤ 100) : IntKind.u64.wrap (v : Int) = v := by
  simp [IntKind.wrap, IntKind.bits, IntKind.signed]
  omega
end Go.Proofs.YbulkxzmFmt
