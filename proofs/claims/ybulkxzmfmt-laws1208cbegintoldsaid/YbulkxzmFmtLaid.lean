/-
  WHAT THE CONDITION 'laid' SAYS, AND A START THAT MEETS IT.
-/
import Derived.Test.YbulkxzmFmtTie
import Derived.Test.YbulkxzmFmtCards
import Derived.ProofKit
import Derived.LaidMore
import Derived.OpenShut
import Derived.OpenVars
import Derived.Stop.Joined
import Derived.Stop.JoinedTold
import Derived.Deep.DeepWitnessRef
namespace Go.Proofs.YbulkxzmFmt
open Go.ChangeShapes Go.WideShapes Go.ChangeAt Go.RowKit
set_option linter.unusedVariables false

theorem own : ownKnob Ybaf.prog.godebug = none := by kernel_rfl
theorem laidOut : laidOutB Ybaf.prog = true := by kernel_rfl
theorem stops : Ybaf.pinned.checked.prog.stops = ["fmt.errorf"] := by kernel_rfl
theorem stopKnobs : Ybaf.pinned.checked.prog.stopKnobs = [] := by kernel_rfl
theorem quiet (os : Os) : Stop.quiet Ybaf.pinned.checked.prog os := by
  intro k hk
  rw [stopKnobs] at hk
  cases hk

/-- The door's own heap meets the condition. -/
theorem door_met (os : Os) (args : Array Value) : laidMetH Ybaf.prog Rows.lawS1208COrderRow.laid ((World.doorLaid Ybaf.prog 66 os).forCall (fun _ _ => 0) ⟨#[], args, []⟩).memory :=
  laidMetH_of_parts3 (fuel := 8) (laidMet_of_run' 8 (by kernel_rfl) (by kernel_rfl)) (by kernel_rfl) (by kernel_rfl)

theorem witness_order (os : Os) {H : Type} (enc : TypeId × Value → H) :
    (OpenSpec.ofChange Rows.lawS1208COrderSpec).preRow enc Ybaf.prog Ybaf.f5 [] false Rows.lawS1208COrderRow.laid ((World.doorLaid Ybaf.prog 66 os).forCall (fun _ _ => 0) ⟨#[], #[.int .u8 0, .int .u64 0], []⟩).memory #[.int .u8 0, .int .u64 0] := by
  have hw : (DataW.whole enc Ybaf.prog ((World.doorLaid Ybaf.prog 66 os).forCall (fun _ _ => 0) ⟨#[], #[.int .u8 0, .int .u64 0], []⟩).memory Ybaf.f5.params.toList (OpenSpec.ofChange Rows.lawS1208COrderSpec).vars false #[Value.int .u8 0, Value.int .u64 0].toList 8).isSome = true := by kernel_rfl
  obtain ⟨x, hx⟩ := Option.isSome_iff_exists.1 hw
  exact OpenSpec.preRow_of_cond 8 hx (by kernel_rfl) (fun k hk => by cases hk) (by kernel_rfl) (door_met os _)
end Go.Proofs.YbulkxzmFmt
