/-
  DERIVED. GIVEN WITH THE SEED: THE CARDS: each row of YbulkxxiDoorRows.lean that lists a variable, with what it lists TIED to the program's text (the seventh form; the later family's looks); each row that meets fmt, with fmt's text TOLD by the authors' own Lean function (tested against real Go, not proved from fmt's source: count such statements apart). THE CARD IS WHAT COUNTS. Prove the row's statement (the work); the ties are given (YbulkxxiDoorTie.lean); close each card by the builder's one call (the guide's Derived/Test/ToyasCard.lean, 'card_holds'). Laid BY PROGRAM, IN A SANDBOX (cutbox-door.mjs). By AI agents, Wed Nov 11 2026. No macro, syntax, notation, axiom, sorry.
-/
import Derived.Test.YbulkxxiDoorRows
import GoSem.ClaimSeven
namespace Go.Proofs.YbulkxxiDoor
namespace Rows

/-- THE TIED CARD OF 'inputfile.LawS1204AWhole'. -/
def lawS1204AWholeCard : Claim7 := { stood := { row := lawS1204AWholeRow, standIns := [], harness := (true, "f209ddf6f6a0a5c1bad324d4f1fd06e685898d7b9f8e94aa09f158bbb83a2c69"), looks := false }, kinds := [], alts := [], laidByText := true, laidKinds := [.data, .called], laidTests := true, laidLooks := .later }
def LawS1204AWholeCardSaid : Prop := Claim7.holds Ybad.pinned (.plain (OpenSpec.ofChange lawS1204AWholeSpec)) lawS1204AWholeCard

/-- THE TIED CARD OF 'inputfile.LawS1204APrefix'. -/
def lawS1204APrefixCard : Claim7 := { stood := { row := lawS1204APrefixRow, standIns := [], harness := (true, "f209ddf6f6a0a5c1bad324d4f1fd06e685898d7b9f8e94aa09f158bbb83a2c69"), looks := false }, kinds := [], alts := [], laidByText := true, laidKinds := [.data, .called], laidTests := true, laidLooks := .later }
def LawS1204APrefixCardSaid : Prop := Claim7.holds Ybad.pinned (.plain (OpenSpec.ofChange lawS1204APrefixSpec)) lawS1204APrefixCard
end Rows
end Go.Proofs.YbulkxxiDoor
