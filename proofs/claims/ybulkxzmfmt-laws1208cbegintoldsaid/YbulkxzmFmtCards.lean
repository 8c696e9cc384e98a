/-
  DERIVED. GIVEN WITH THE SEED: THE CARDS: each row of YbulkxzmFmtRows.lean that lists a variable, with what it lists TIED to the program's text (the seventh form; the later family's looks); each row that meets fmt, with fmt's text TOLD by the authors' own Lean function (tested against real Go, not proved from fmt's source: count such statements apart). THE CARD IS WHAT COUNTS. Prove the row's statement (the work); the ties are given (YbulkxzmFmtTie.lean); close each card by the builder's one call (the guide's Derived/Test/ToyasCard.lean, 'card_holds'). Laid BY PROGRAM, IN A SANDBOX (cutbox-door.mjs). By AI agents, Wed Nov 11 2026. No macro, syntax, notation, axiom, sorry.
-/
import Derived.Test.YbulkxzmFmtRows
import GoSem.ClaimSeven
namespace Go.Proofs.YbulkxzmFmt
namespace Rows

/-- THE TOLD AND TIED CARD OF 'sim.LawS1208BNoneBegunZero'. -/
def lawS1208BNoneBegunZeroCard : Claim7 := { stood := { row := lawS1208BNoneBegunZeroRow, standIns := [], harness := (true, "aeb5296ba09c7a0e4d339f8fbdc59f7da61e73b254d69f221cbb0c939bf260ac"), looks := true }, told := true, laidByText := true, laidKinds := [.sentinel], laidTests := true, laidLooks := .later, goes := false }
def LawS1208BNoneBegunZeroToldSaid : Prop := Claim7.holds Ybaf.pinned (.plain (OpenSpec.ofChange lawS1208BNoneBegunZeroSpec)) lawS1208BNoneBegunZeroCard
/-- ITS FALSE NEIGHBOUR. Refute it at one input. -/
def LawS1208BNoneBegunZeroToldWrongFalsely : Prop := Claim7.holds Ybaf.pinned (.plain (OpenSpec.ofChange lawS1208BNoneBegunZeroWrong)) lawS1208BNoneBegunZeroCard

/-- THE TOLD AND TIED CARD OF 'waitwarden.LawS1208CBegin'. -/
def lawS1208CBeginCard : Claim7 := { stood := { row := lawS1208CBeginRow, standIns := [], harness := (true, "aeb5296ba09c7a0e4d339f8fbdc59f7da61e73b254d69f221cbb0c939bf260ac"), looks := true }, told := true, laidByText := true, laidKinds := [.sentinel, .sentinel, .sentinel], laidTests := true, laidLooks := .later, goes := false }
def LawS1208CBeginToldSaid : Prop := Claim7.holds Ybaf.pinned (.plain (OpenSpec.ofChange lawS1208CBeginSpec)) lawS1208CBeginCard
/-- ITS FALSE NEIGHBOUR. Refute it at one input. -/
def LawS1208CBeginToldWrongFalsely : Prop := Claim7.holds Ybaf.pinned (.plain (OpenSpec.ofChange lawS1208CBeginWrong)) lawS1208CBeginCard

/-- THE TOLD AND TIED CARD OF 'waitwarden.LawS1208COrder'. -/
def lawS1208COrderCard : Claim7 := { stood := { row := lawS1208COrderRow, standIns := [], harness := (true, "aeb5296ba09c7a0e4d339f8fbdc59f7da61e73b254d69f221cbb0c939bf260ac"), looks := true }, told := true, laidByText := true, laidKinds := [.sentinel, .sentinel, .sentinel], laidTests := true, laidLooks := .later, goes := false }
def LawS1208COrderToldSaid : Prop := Claim7.holds Ybaf.pinned (.plain (OpenSpec.ofChange lawS1208COrderSpec)) lawS1208COrderCard
/-- ITS FALSE NEIGHBOUR. Refute it at one input. -/
def LawS1208COrderToldWrongFalsely : Prop := Claim7.holds Ybaf.pinned (.plain (OpenSpec.ofChange lawS1208COrderWrong)) lawS1208COrderCard
end Rows
end Go.Proofs.YbulkxzmFmt
