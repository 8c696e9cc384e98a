/-
  No cell of these rows narrows 'for every input' (looked for: loops, veiled, ifaces, maps, wideKeys, modest, calm, conditions, laid).
  DERIVED. THE GIVEN ROWS OF THIS SEAT. 2 by the template 'for every input the law returns true; each argument reads behind the call as it read before'; 0 by the template 'total and deterministic' (their statements: YbulkxwuTotals.lean).
  GIVEN WITH THE SEED: the statements are not yours to turn. If you find one false, say at which input.
  Laid BY PROGRAM, IN A SANDBOX (cutbox-rows.mjs): the forced cells as the released guide's own fill.sh prints them over the translation 4cf59ad2deedb375… (all of the seat's roots in one cut). By AI agents, Wed Nov 11 2026. No macro, syntax, notation, axiom, sorry.
-/
import Derived.Test.YbulkxwuChecked
import GoSem.Claim
import GoSem.ClaimJoined
import GoSem.ClaimMapViews
import Derived.JoinedTies
import Derived.KernelRfl
namespace Go.Proofs.Ybulkxwu
/- THE CELL 'sum', in the pinned program and in every row, IS THE sha256 OF THE DUMP (.gsa) THAT YbulkxwuProg.lean LOADS. Nothing in Lean hashes anything: it is a label: what it is worth is what the hold of that sum in a sandbox is worth. -/
noncomputable def Yba.pinned : Pinned := { name := "ybulkxwu", sum := "4cf59ad2deedb3751d8c9ea7bcb65399fc06a8c200ca221f156798c109ad401a", checked := Yba.checked }
namespace Rows
def none {H : Type} : Left H := { results := [], args := [] }

/-- 'pcap.LawS1203AModel': WHATEVER THE INPUT: true; the input reads as it did. -/
def lawS1203AModelSpec : ChangeSpec := { name := "lawS1203AModel", fn := fun _ => fun
  | [d] => { results := [.lit (.bool true)], args := [d] }
  | _ => none }
def lawS1203AModelRow : OpenClaim := { program := "ybulkxwu", sum := "4cf59ad2deedb3751d8c9ea7bcb65399fc06a8c200ca221f156798c109ad401a", func := "example.com/sealwire/sealwire/internal/pcap.LawS1203AModel", spec := "lawS1203AModel", named := ["encoding/binary.BigEndian"], apart := false }
def LawS1203AModelSaid : Prop := lawS1203AModelRow.holds Yba.pinned (OpenSpec.ofChange lawS1203AModelSpec)

/-- ITS FALSE NEIGHBOUR: 'it returns false'. Refute it at one input. -/
def lawS1203AModelWrong : ChangeSpec := { name := "lawS1203AModel", fn := fun _ => fun
  | [d] => { results := [.lit (.bool false)], args := [d] }
  | _ => none }
def LawS1203AModelWrongFalsely : Prop := lawS1203AModelRow.holds Yba.pinned (OpenSpec.ofChange lawS1203AModelWrong)

/-- 'pcap.LawS1203ABuilt': WHATEVER THE INPUT: true; the input reads as it did. -/
def lawS1203ABuiltSpec : ChangeSpec := { name := "lawS1203ABuilt", fn := fun _ => fun
  | [d1, d2, d3, d4] => { results := [.lit (.bool true)], args := [d1, d2, d3, d4] }
  | _ => none }
def lawS1203ABuiltRow : OpenClaim := { program := "ybulkxwu", sum := "4cf59ad2deedb3751d8c9ea7bcb65399fc06a8c200ca221f156798c109ad401a", func := "example.com/sealwire/sealwire/internal/pcap.LawS1203ABuilt", spec := "lawS1203ABuilt", named := ["encoding/binary.BigEndian"], apart := false }
def LawS1203ABuiltSaid : Prop := lawS1203ABuiltRow.holds Yba.pinned (OpenSpec.ofChange lawS1203ABuiltSpec)

/-- ITS FALSE NEIGHBOUR: 'it returns false'. Refute it at one input. -/
def lawS1203ABuiltWrong : ChangeSpec := { name := "lawS1203ABuilt", fn := fun _ => fun
  | [d1, d2, d3, d4] => { results := [.lit (.bool false)], args := [d1, d2, d3, d4] }
  | _ => none }
def LawS1203ABuiltWrongFalsely : Prop := lawS1203ABuiltRow.holds Yba.pinned (OpenSpec.ofChange lawS1203ABuiltWrong)

end Rows
end Go.Proofs.Ybulkxwu
