/-
  NARROWER THAN 'FOR EVERY INPUT', by the rows' own cells (each row's printed sentence says how): LawS1208BNoneBegunZero: ifaces, laid · LawS1208CBegin: ifaces, laid · LawS1208COrder: ifaces, laid.
  DERIVED. THE GIVEN ROWS OF THIS SEAT. 3 by the template 'for every input the law returns true; each argument reads behind the call as it read before'; 0 by the template 'total and deterministic' (their statements: YbulkxzmFmtTotals.lean).
  GIVEN WITH THE SEED: the statements are not yours to turn. If you find one false, say at which input.
  Laid BY PROGRAM, IN A SANDBOX (cutbox-rows.mjs): the forced cells as the released guide's own fill.sh prints them over the translation 3583906c737d800a… (all of the seat's roots in one cut). By AI agents, Wed Nov 11 2026. No macro, syntax, notation, axiom, sorry.
-/
import Derived.Test.YbulkxzmFmtChecked
import GoSem.Claim
import GoSem.ClaimJoined
import GoSem.ClaimMapViews
import Derived.JoinedTies
import Derived.KernelRfl
namespace Go.Proofs.YbulkxzmFmt
/- THE CELL 'sum', in the pinned program and in every row, IS THE sha256 OF THE DUMP (.gsa) THAT YbulkxzmFmtProg.lean LOADS. Nothing in Lean hashes anything: it is a label: what it is worth is what the hold of that sum in a sandbox is worth. -/
noncomputable def Ybaf.pinned : Pinned := { name := "ybulkxzmfmt", sum := "3583906c737d800aaa14fbcdd44e67f5cf7aa20be46e7f10f77fc036474b8d6d", checked := Ybaf.checked }
namespace Rows
def none {H : Type} : Left H := { results := [], args := [] }

/- WHAT THE LISTED PACKAGE-LEVEL VARIABLES READ AS WHEN THE CALL BEGINS. Each datum BY PROGRAM (the guide's laid-datum.mjs) off the statement by which the dump's own 'gosem.cut.vars' lays the variable. In a bare row this is a premise. The card (YbulkxzmFmtCards.lean) ties it to the program's text. -/
def laid_example_com_waitwarden_waitwarden_ErrUnknownTransaction {H : Type} : DataW H := .iface "*errors.errorString" (.ptr (.agg [.lit (.string [117, 110, 107, 110, 111, 119, 110, 32, 116, 114, 97, 110, 115, 97, 99, 116, 105, 111, 110])]))
def laid_example_com_waitwarden_waitwarden_ErrExists {H : Type} : DataW H := .iface "*errors.errorString" (.ptr (.agg [.lit (.string [101, 120, 105, 115, 116, 115])]))
def laid_example_com_waitwarden_waitwarden_ErrNotActive {H : Type} : DataW H := .iface "*errors.errorString" (.ptr (.agg [.lit (.string [110, 111, 116, 32, 97, 99, 116, 105, 118, 101])]))

/-- 'sim.LawS1208BNoneBegunZero': WHATEVER THE INPUT: true; the input reads as it did. -/
def lawS1208BNoneBegunZeroSpec : ChangeSpec := { name := "lawS1208BNoneBegunZero", vars := ["example.com/waitwarden/waitwarden.ErrUnknownTransaction"], fn := fun _ => fun
  | [d, g1] => { results := [.lit (.bool true)], args := [d], vars := [g1] }
  | _ => none }
def lawS1208BNoneBegunZeroRow : OpenClaim := { program := "ybulkxzmfmt", sum := "3583906c737d800aaa14fbcdd44e67f5cf7aa20be46e7f10f77fc036474b8d6d", func := "example.com/waitwarden/waitwarden/internal/sim.LawS1208BNoneBegunZero", spec := "lawS1208BNoneBegunZero", stops := ["fmt.errorf"], inPlace := ["fmt.errorf"], unfollowed := true, recurses := true, named := ["example.com/waitwarden/waitwarden.ErrUnknownTransaction"], ifaces := true, plainKeys := false, apart := false, laid := [("example.com/waitwarden/waitwarden.ErrUnknownTransaction", laid_example_com_waitwarden_waitwarden_ErrUnknownTransaction)] }
/-- NO THEOREM (fmt's text is open here; it may be false): for the released tool's asking of the row's closed facts alone. THE STATEMENT IS 'LawS1208BNoneBegunZeroToldSaid' (YbulkxzmFmtCards.lean). -/
def LawS1208BNoneBegunZeroFormAsk : Prop := lawS1208BNoneBegunZeroRow.holds Ybaf.pinned (OpenSpec.ofChange lawS1208BNoneBegunZeroSpec)

/-- ITS FALSE NEIGHBOUR: 'it returns false'. Refute it at one input. -/
def lawS1208BNoneBegunZeroWrong : ChangeSpec := { name := "lawS1208BNoneBegunZero", vars := ["example.com/waitwarden/waitwarden.ErrUnknownTransaction"], fn := fun _ => fun
  | [d, g1] => { results := [.lit (.bool false)], args := [d], vars := [g1] }
  | _ => none }
def LawS1208BNoneBegunZeroWrongFormAsk : Prop := lawS1208BNoneBegunZeroRow.holds Ybaf.pinned (OpenSpec.ofChange lawS1208BNoneBegunZeroWrong)

/-- 'waitwarden.LawS1208CBegin': WHATEVER THE INPUT: true; the input reads as it did. -/
def lawS1208CBeginSpec : ChangeSpec := { name := "lawS1208CBegin", vars := ["example.com/waitwarden/waitwarden.ErrExists", "example.com/waitwarden/waitwarden.ErrUnknownTransaction", "example.com/waitwarden/waitwarden.ErrNotActive"], fn := fun _ => fun
  | [d1, d2, d3, d4, g1, g2, g3] => { results := [.lit (.bool true)], args := [d1, d2, d3, d4], vars := [g1, g2, g3] }
  | _ => none }
def lawS1208CBeginRow : OpenClaim := { program := "ybulkxzmfmt", sum := "3583906c737d800aaa14fbcdd44e67f5cf7aa20be46e7f10f77fc036474b8d6d", func := "example.com/waitwarden/waitwarden.LawS1208CBegin", spec := "lawS1208CBegin", stops := ["fmt.errorf"], inPlace := ["fmt.errorf", "internal/reflectlite.TypeOf"], unfollowed := true, recurses := true, named := ["example.com/waitwarden/waitwarden.ErrExists", "example.com/waitwarden/waitwarden.ErrUnknownTransaction", "example.com/waitwarden/waitwarden.ErrNotActive"], ifaces := true, plainKeys := false, apart := false, laid := [("example.com/waitwarden/waitwarden.ErrUnknownTransaction", laid_example_com_waitwarden_waitwarden_ErrUnknownTransaction), ("example.com/waitwarden/waitwarden.ErrExists", laid_example_com_waitwarden_waitwarden_ErrExists), ("example.com/waitwarden/waitwarden.ErrNotActive", laid_example_com_waitwarden_waitwarden_ErrNotActive)] }
/-- NO THEOREM (fmt's text is open here; it may be false): for the released tool's asking of the row's closed facts alone. THE STATEMENT IS 'LawS1208CBeginToldSaid' (YbulkxzmFmtCards.lean). -/
def LawS1208CBeginFormAsk : Prop := lawS1208CBeginRow.holds Ybaf.pinned (OpenSpec.ofChange lawS1208CBeginSpec)

/-- ITS FALSE NEIGHBOUR: 'it returns false'. Refute it at one input. -/
def lawS1208CBeginWrong : ChangeSpec := { name := "lawS1208CBegin", vars := ["example.com/waitwarden/waitwarden.ErrExists", "example.com/waitwarden/waitwarden.ErrUnknownTransaction", "example.com/waitwarden/waitwarden.ErrNotActive"], fn := fun _ => fun
  | [d1, d2, d3, d4, g1, g2, g3] => { results := [.lit (.bool false)], args := [d1, d2, d3, d4], vars := [g1, g2, g3] }
  | _ => none }
def LawS1208CBeginWrongFormAsk : Prop := lawS1208CBeginRow.holds Ybaf.pinned (OpenSpec.ofChange lawS1208CBeginWrong)

/-- 'waitwarden.LawS1208COrder': WHATEVER THE INPUT: true; the input reads as it did. -/
def lawS1208COrderSpec : ChangeSpec := { name := "lawS1208COrder", vars := ["example.com/waitwarden/waitwarden.ErrExists", "example.com/waitwarden/waitwarden.ErrUnknownTransaction", "example.com/waitwarden/waitwarden.ErrNotActive"], fn := fun _ => fun
  | [d1, d2, g1, g2, g3] => { results := [.lit (.bool true)], args := [d1, d2], vars := [g1, g2, g3] }
  | _ => none }
def lawS1208COrderRow : OpenClaim := { program := "ybulkxzmfmt", sum := "3583906c737d800aaa14fbcdd44e67f5cf7aa20be46e7f10f77fc036474b8d6d", func := "example.com/waitwarden/waitwarden.LawS1208COrder", spec := "lawS1208COrder", stops := ["fmt.errorf"], inPlace := ["fmt.errorf"], unfollowed := true, recurses := true, named := ["example.com/waitwarden/waitwarden.ErrExists", "example.com/waitwarden/waitwarden.ErrUnknownTransaction", "example.com/waitwarden/waitwarden.ErrNotActive"], ifaces := true, plainKeys := false, apart := false, laid := [("example.com/waitwarden/waitwarden.ErrUnknownTransaction", laid_example_com_waitwarden_waitwarden_ErrUnknownTransaction), ("example.com/waitwarden/waitwarden.ErrExists", laid_example_com_waitwarden_waitwarden_ErrExists), ("example.com/waitwarden/waitwarden.ErrNotActive", laid_example_com_waitwarden_waitwarden_ErrNotActive)] }
/-- NO THEOREM (fmt's text is open here; it may be false): for the released tool's asking of the row's closed facts alone. THE STATEMENT IS 'LawS1208COrderToldSaid' (YbulkxzmFmtCards.lean). -/
def LawS1208COrderFormAsk : Prop := lawS1208COrderRow.holds Ybaf.pinned (OpenSpec.ofChange lawS1208COrderSpec)

/-- ITS FALSE NEIGHBOUR: 'it returns false'. Refute it at one input. -/
def lawS1208COrderWrong : ChangeSpec := { name := "lawS1208COrder", vars := ["example.com/waitwarden/waitwarden.ErrExists", "example.com/waitwarden/waitwarden.ErrUnknownTransaction", "example.com/waitwarden/waitwarden.ErrNotActive"], fn := fun _ => fun
  | [d1, d2, g1, g2, g3] => { results := [.lit (.bool false)], args := [d1, d2], vars := [g1, g2, g3] }
  | _ => none }
def LawS1208COrderWrongFormAsk : Prop := lawS1208COrderRow.holds Ybaf.pinned (OpenSpec.ofChange lawS1208COrderWrong)

end Rows
end Go.Proofs.YbulkxzmFmt
