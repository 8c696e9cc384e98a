/-
  CLOSED FACTS on fmt's stop and on errors.Is, off this program (after the guide's Derived/Test/GuardFmt.lean and SentryIs.lean).
-/
import Derived.Test.YbulkxzmFmtRows
import Derived.WalkKit
import Derived.LaidEql
import Derived.Stop.CallBack
import Derived.Stop.IfaceNil
import Derived.Stop.Asserts
import Derived.RowKitTokens
namespace Go.Proofs
open Go.Extern.Stop Go.Stop Go.Extern
set_option linter.unusedVariables false

theorem Ybaf.call31 (args : Array Value) (w : World) : (callFunc 31 args).run Ybaf.prog w = ((FmtStop.errorf #[9, 152] #[103] args).run Ybaf.prog w).andThen fun v w' => .ok (.value v) w' :=
  run_callFunc_extern Ybaf.func31 (by kernel_rfl) (by kernel_rfl) (by kernel_rfl) (by kernel_rfl) args w
theorem Ybaf.guard (name : String) (w : World) : (FmtStop.guard name).run Ybaf.prog w = .ok () w := by kernel_rfl

-- the three formats, as bytes
theorem Ybaf.fmt0 : FmtStop.printed? ⟨#[37, 119, 32, 37, 115]⟩ 2 = some [(0, 119, false), (1, 115, false)] := by kernel_rfl
theorem Ybaf.fmt0r (w : World) : (FmtDoors.printed ⟨#[37, 119, 32, 37, 115]⟩ 2).run Ybaf.prog w = .ok [(0, 119, false), (1, 115, false)] w := by kernel_rfl
theorem Ybaf.fmt1 : FmtStop.printed? ⟨#[116, 114, 97, 110, 115, 97, 99, 116, 105, 111, 110, 32, 37, 115, 32, 37, 119]⟩ 2 = some [(0, 115, false), (1, 119, false)] := by kernel_rfl
theorem Ybaf.fmt1r (w : World) : (FmtDoors.printed ⟨#[116, 114, 97, 110, 115, 97, 99, 116, 105, 111, 110, 32, 37, 115, 32, 37, 119]⟩ 2).run Ybaf.prog w = .ok [(0, 115, false), (1, 119, false)] w := by kernel_rfl
theorem Ybaf.fmt2 : FmtStop.printed? ⟨#[116, 114, 97, 110, 115, 97, 99, 116, 105, 111, 110, 32, 37, 115, 32, 105, 115, 32, 37, 119]⟩ 2 = some [(0, 115, false), (1, 119, false)] := by kernel_rfl
theorem Ybaf.fmt2r (w : World) : (FmtDoors.printed ⟨#[116, 114, 97, 110, 115, 97, 99, 116, 105, 111, 110, 32, 37, 115, 32, 105, 115, 32, 37, 119]⟩ 2).run Ybaf.prog w = .ok [(0, 115, false), (1, 119, false)] w := by kernel_rfl

def Ybaf.shape9 : List UInt8 := [12, 6, 0, 0, 0, 0, 0, 0, 0, 115, 116, 114, 105, 110, 103]
theorem Ybaf.op9_115w (name : String) (x : ByteArray) (w : World) : (FmtStop.operand name true 115 false (.iface 9 (.string x))).run Ybaf.prog w = .ok (Ybaf.shape9, FmtStop.pack x.data.toList) w := by kernel_rfl
theorem Ybaf.strict9 (name : String) (x : ByteArray) (w : World) : (FmtStop.strict name (.iface 9 (.string x))).run Ybaf.prog w = .ok (Ybaf.shape9, FmtStop.pack x.data.toList) w := by kernel_rfl

theorem Ybaf.ptr148 (w : World) : (FmtStop.ptrTo "errors.errorString").run Ybaf.prog w = .ok 148 w := by kernel_rfl
theorem Ybaf.elem148 (w : World) : (elemOf 148).run Ybaf.prog w = .ok 150 w := by kernel_rfl
theorem Ybaf.isError148' (w : World) : (FmtDoors.textMethod 148 "Error").run Ybaf.prog w = .ok true w := by kernel_rfl
theorem Ybaf.opPlain148_119w (name : String) (a : Addr) (s : ByteArray) (w : World) (hc : w.cell? a = some (.string s)) :
    ∃ pl, (FmtStop.operand name true 119 false (.iface 148 (.pointer (some a)))).run Ybaf.prog w = .ok (pl, s.data.toList) w := by
  have h1 : (typeStr 148).run Ybaf.prog w = .ok Ybaf.t148.str w := by kernel_rfl
  have d2 : Ybaf.t148.desc = .pointer 150 := rfl
  have d3 : Ybaf.t150.desc = .named "errors.errorString" 149 := rfl
  refine ⟨14 :: FmtStop.pack Ybaf.t148.str.toUTF8.data.toList, ?_⟩
  simp [FmtStop.operand, h1, d2, d3, run_load, hc]
theorem Ybaf.ptr153 (w : World) : (FmtStop.ptrTo "fmt.wrapError").run Ybaf.prog w = .ok 153 w := by kernel_rfl
theorem Ybaf.elem153 (w : World) : (elemOf 153).run Ybaf.prog w = .ok 306 w := by kernel_rfl
theorem Ybaf.isError153' (w : World) : (FmtDoors.textMethod 153 "Error").run Ybaf.prog w = .ok true w := by kernel_rfl

theorem Ybaf.isTypeOf (v : Value) (w : World) : (callFunc 18 #[.iface 148 v]).run Ybaf.prog w = .ok (.value (.iface 133 (.agg #[.pointer (some ⟨3, 148, none⟩)]))) w := by kernel_rfl
theorem Ybaf.isComparable (w : World) : (callFunc 110 #[.agg #[.pointer (some ⟨3, 148, none⟩)]]).run Ybaf.prog w = .ok (.value (.bool true)) w := by kernel_rfl
theorem Ybaf.isMethodComparable (v : Value) (w : World) : (Go.method 462 133 v "Comparable").run Ybaf.prog w = .ok (110, v) w := by kernel_rfl
theorem Ybaf.isComp : (Ybaf.prog.info? 148).map (·.comparable) = some true := by kernel_rfl
theorem Ybaf.isSize : (Ybaf.prog.info? 150).map (·.size) = some 1 := by kernel_rfl
theorem Ybaf.noIsW (v : Value) (xT : TypeId) (w : World) : (Instr.typeAssert (.iface 153 v) xT 135 true).run Ybaf.prog w = .ok (.tuple #[.nilIface, .bool false]) w := run_typeAssert_lacksB Ybaf.underlying135 (by kernel_rfl) (by kernel_rfl) v xT w
theorem Ybaf.hasUnwrapW (v : Value) (xT : TypeId) (w : World) : (Instr.typeAssert (.iface 153 v) xT 138 true).run Ybaf.prog w = .ok (.tuple #[.iface 153 v, .bool true]) w := run_typeAssert_hasB Ybaf.underlying138 (by kernel_rfl) v xT w
theorem Ybaf.methodUnwrap (v : Value) (w : World) : (Go.method 462 153 v "Unwrap").run Ybaf.prog w = .ok (121, v) w := by kernel_rfl
end Go.Proofs

namespace Go.Proofs.YbulkxzmFmt
open Go.RowKit Go.Extern.Stop Go.Stop Go.Extern

set_option maxHeartbeats 1600000 in
set_option maxRecDepth 100000 in
/-- errors.Is(e, x), e a *fmt.wrapError that wraps x itself. -/
theorem is_wrap_same (pb po : Nat) (b : Addr) (w : World) (h1 : w.cell? ⟨pb, po + 1, none⟩ = some (.iface 148 (.pointer (some b)))) :
    Calls Ybaf.prog 11 #[.iface 153 (.pointer (some ⟨pb, po, none⟩)), .iface 148 (.pointer (some b))] w fun e w' => e = .returned (.bool true) ∧ w' = w := by
  obtain ⟨i, hi, hcmp⟩ := Option.map_eq_some_iff.1 Ybaf.isComp
  obtain ⟨j, hj, hjs⟩ := Option.map_eq_some_iff.1 Ybaf.isSize
  have tT := Ybaf.isTypeOf
  have cT := Ybaf.isComparable
  have mR := Ybaf.isMethodComparable
  have nW := Ybaf.noIsW
  have uW := Ybaf.hasUnwrapW
  have mU := Ybaf.methodUnwrap
  have heq := run_eql_iface_ptr_same (P := Ybaf.prog) w b Ybaf.underlying103 Ybaf.underlying148 hi hcmp hj
  have hty := run_eql_iface_types (P := Ybaf.prog) 153 148 (.pointer (some ⟨pb, po, none⟩)) (.pointer (some b)) Ybaf.underlying103 (by decide) w
  go_enter Ybaf.func11, Ybaf.ntmps11
  go_wp2
  refine wp_loop_rounds 2 ?_
  rw [rounds_succ]
  go_wp2
  rw [rounds_succ]
  go_wp2
  go_ret
  exact ⟨rfl, rfl⟩
end Go.Proofs.YbulkxzmFmt
