/-
  No cell of these rows narrows 'for every input' (looked for: loops, veiled, ifaces, maps, wideKeys, modest, calm, conditions, laid).
  DERIVED. THE GIVEN ROWS OF THIS SEAT. 1 by the template 'for every input the law returns true; each argument reads behind the call as it read before'; 0 by the template 'total and deterministic' (their statements: YbulkxyyTotals.lean).
  GIVEN WITH THE SEED: the statements are not yours to turn. If you find one false, say at which input.
  Laid BY PROGRAM, IN A SANDBOX (cutbox-rows.mjs): the forced cells as the released guide's own fill.sh prints them over the translation 3e159c8714748f12… (all of the seat's roots in one cut). By AI agents, Wed Nov 11 2026. No macro, syntax, notation, axiom, sorry.
-/
import Derived.Test.YbulkxyyChecked
import GoSem.Claim
import GoSem.ClaimJoined
import GoSem.ClaimMapViews
import Derived.JoinedTies
import Derived.KernelRfl
namespace Go.Proofs.Ybulkxyy
/- THE CELL 'sum', in the pinned program and in every row, IS THE sha256 OF THE DUMP (.gsa) THAT YbulkxyyProg.lean LOADS. Nothing in Lean hashes anything: it is a label: what it is worth is what the hold of that sum in a sandbox is worth. -/
noncomputable def Yba.pinned : Pinned := { name := "ybulkxyy", sum := "3e159c8714748f128dda906e967e333637429c4a57140f6b6398b737089cec6a", checked := Yba.checked }
namespace Rows
def none {H : Type} : Left H := { results := [], args := [] }

/-- 'proxy.LawS1207AForgets': WHATEVER THE INPUT: true; the input reads as it did. -/
def lawS1207AForgetsSpec : ChangeSpec := { name := "lawS1207AForgets", fn := fun _ => fun
  | [d1, d2, d3, d4, d5, d6] => { results := [.lit (.bool true)], args := [d1, d2, d3, d4, d5, d6] }
  | _ => none }
def lawS1207AForgetsRow : OpenClaim := { program := "ybulkxyy", sum := "3e159c8714748f128dda906e967e333637429c4a57140f6b6398b737089cec6a", func := "example.com/detour/detour/internal/proxy.LawS1207AForgets", spec := "lawS1207AForgets", inPlace := ["time.stopTimer"], unfollowed := true, recurses := true, plainKeys := false, apart := false }
def LawS1207AForgetsSaid : Prop := lawS1207AForgetsRow.holds Yba.pinned (OpenSpec.ofChange lawS1207AForgetsSpec)

/-- ITS FALSE NEIGHBOUR: 'it returns false'. Refute it at one input. -/
def lawS1207AForgetsWrong : ChangeSpec := { name := "lawS1207AForgets", fn := fun _ => fun
  | [d1, d2, d3, d4, d5, d6] => { results := [.lit (.bool false)], args := [d1, d2, d3, d4, d5, d6] }
  | _ => none }
def LawS1207AForgetsWrongFalsely : Prop := lawS1207AForgetsRow.holds Yba.pinned (OpenSpec.ofChange lawS1207AForgetsWrong)

end Rows
end Go.Proofs.Ybulkxyy
