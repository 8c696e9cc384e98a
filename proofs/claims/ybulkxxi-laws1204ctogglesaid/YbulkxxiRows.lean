/-
  No cell of these rows narrows 'for every input' (looked for: loops, veiled, ifaces, maps, wideKeys, modest, calm, conditions, laid).
  DERIVED. THE GIVEN ROWS OF THIS SEAT. 2 by the template 'for every input the law returns true; each argument reads behind the call as it read before'; 0 by the template 'total and deterministic' (their statements: YbulkxxiTotals.lean).
  GIVEN WITH THE SEED: the statements are not yours to turn. If you find one false, say at which input.
  Laid BY PROGRAM, IN A SANDBOX (cutbox-rows.mjs): the forced cells as the released guide's own fill.sh prints them over the translation b3f92ed2a596d4a5… (all of the seat's roots in one cut). By AI agents, Wed Nov 11 2026. No macro, syntax, notation, axiom, sorry.
-/
import Derived.Test.YbulkxxiChecked
import GoSem.Claim
import GoSem.ClaimJoined
import GoSem.ClaimMapViews
import Derived.JoinedTies
import Derived.KernelRfl
namespace Go.Proofs.Ybulkxxi
/- THE CELL 'sum', in the pinned program and in every row, IS THE sha256 OF THE DUMP (.gsa) THAT YbulkxxiProg.lean LOADS. Nothing in Lean hashes anything: it is a label: what it is worth is what the hold of that sum in a sandbox is worth. -/
noncomputable def Yba.pinned : Pinned := { name := "ybulkxxi", sum := "b3f92ed2a596d4a5179fcc6829a263413c55d6037c8eb28bb6c2fa7273d18223", checked := Yba.checked }
namespace Rows
def none {H : Type} : Left H := { results := [], args := [] }

/-- 'action.LawS1204CModel': WHATEVER THE INPUT: true; the input reads as it did. -/
def lawS1204CModelSpec : ChangeSpec := { name := "lawS1204CModel", fn := fun _ => fun
  | [d1, d2] => { results := [.lit (.bool true)], args := [d1, d2] }
  | _ => none }
def lawS1204CModelRow : OpenClaim := { program := "ybulkxxi", sum := "b3f92ed2a596d4a5179fcc6829a263413c55d6037c8eb28bb6c2fa7273d18223", func := "example.com/permlint/permlint/action.LawS1204CModel", spec := "lawS1204CModel", apart := false }
def LawS1204CModelSaid : Prop := lawS1204CModelRow.holds Yba.pinned (OpenSpec.ofChange lawS1204CModelSpec)

/-- ITS FALSE NEIGHBOUR: 'it returns false'. Refute it at one input. -/
def lawS1204CModelWrong : ChangeSpec := { name := "lawS1204CModel", fn := fun _ => fun
  | [d1, d2] => { results := [.lit (.bool false)], args := [d1, d2] }
  | _ => none }
def LawS1204CModelWrongFalsely : Prop := lawS1204CModelRow.holds Yba.pinned (OpenSpec.ofChange lawS1204CModelWrong)

/-- 'action.LawS1204CToggle': WHATEVER THE INPUT: true; the input reads as it did. -/
def lawS1204CToggleSpec : ChangeSpec := { name := "lawS1204CToggle", fn := fun _ => fun
  | [d1, d2, d3] => { results := [.lit (.bool true)], args := [d1, d2, d3] }
  | _ => none }
def lawS1204CToggleRow : OpenClaim := { program := "ybulkxxi", sum := "b3f92ed2a596d4a5179fcc6829a263413c55d6037c8eb28bb6c2fa7273d18223", func := "example.com/permlint/permlint/action.LawS1204CToggle", spec := "lawS1204CToggle", apart := false }
def LawS1204CToggleSaid : Prop := lawS1204CToggleRow.holds Yba.pinned (OpenSpec.ofChange lawS1204CToggleSpec)

/-- ITS FALSE NEIGHBOUR: 'it returns false'. Refute it at one input. -/
def lawS1204CToggleWrong : ChangeSpec := { name := "lawS1204CToggle", fn := fun _ => fun
  | [d1, d2, d3] => { results := [.lit (.bool false)], args := [d1, d2, d3] }
  | _ => none }
def LawS1204CToggleWrongFalsely : Prop := lawS1204CToggleRow.holds Yba.pinned (OpenSpec.ofChange lawS1204CToggleWrong)

end Rows
end Go.Proofs.Ybulkxxi
