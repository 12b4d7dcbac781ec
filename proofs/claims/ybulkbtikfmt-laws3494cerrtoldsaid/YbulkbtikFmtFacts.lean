import Derived.Test.YbulkbtikFmtChecked
import Derived.WalkKit
import Derived.LaidEql
import Derived.Stop.Asserts
import Derived.Stop.CallBack
import Derived.Stop.IfaceNil
import Derived.RowKitTokens
import GoSem.ClaimData
namespace Go.Proofs.YbulkbtikFmt
open Go.RowKit Go.Extern.Stop Go.Stop Go.Extern

-- fmt.errorf: function 10: a plain stop
theorem call10 (args : Array Value) (w : World) : (callFunc 10 args).run Ybaf.prog w = ((FmtStop.errorf #[9, 58] #[23] args).run Ybaf.prog w).andThen fun v w' => .ok (.value v) w' :=
  run_callFunc_extern Ybaf.func10 (by kernel_rfl) (by kernel_rfl) (by kernel_rfl) (by kernel_rfl) args w
theorem guardOk (name : String) (w : World) : (FmtStop.guard name).run Ybaf.prog w = .ok () w := by kernel_rfl
theorem fmt0 : FmtStop.printed? ⟨#[108, 111, 103, 32, 111, 102, 32, 111, 98, 106, 101, 99, 116, 32, 37, 113, 58, 32, 37, 119]⟩ 2 = some [(0, 113, false), (1, 119, false)] := by kernel_rfl
theorem fmt0r (w : World) : (FmtDoors.printed ⟨#[108, 111, 103, 32, 111, 102, 32, 111, 98, 106, 101, 99, 116, 32, 37, 113, 58, 32, 37, 119]⟩ 2).run Ybaf.prog w = .ok [(0, 113, false), (1, 119, false)] w := by kernel_rfl
theorem fmt1 : FmtStop.printed? ⟨#[108, 111, 103, 32, 111, 102, 32, 111, 98, 106, 101, 99, 116, 32, 37, 113, 58, 32, 37, 119]⟩ 0 = some [] := by kernel_rfl
theorem fmt1r (w : World) : (FmtDoors.printed ⟨#[108, 111, 103, 32, 111, 102, 32, 111, 98, 106, 101, 99, 116, 32, 37, 113, 58, 32, 37, 119]⟩ 0).run Ybaf.prog w = .ok [] w := by kernel_rfl
def shape9 : List UInt8 := [12, 6, 0, 0, 0, 0, 0, 0, 0, 115, 116, 114, 105, 110, 103]
theorem op9_113w (name : String) (x : ByteArray) (w : World) : (FmtStop.operand name true 113 false (.iface 9 (.string x))).run Ybaf.prog w = .ok (shape9, FmtStop.pack x.data.toList) w := by kernel_rfl
theorem op9_119w (name : String) (x : ByteArray) (w : World) : (FmtStop.operand name true 119 false (.iface 9 (.string x))).run Ybaf.prog w = .ok (shape9, FmtStop.pack x.data.toList) w := by kernel_rfl
theorem op9_118w (name : String) (x : ByteArray) (w : World) : (FmtStop.operand name true 118 false (.iface 9 (.string x))).run Ybaf.prog w = .ok (shape9, FmtStop.pack x.data.toList) w := by kernel_rfl
theorem strict9 (name : String) (x : ByteArray) (w : World) : (FmtStop.strict name (.iface 9 (.string x))).run Ybaf.prog w = .ok (shape9, FmtStop.pack x.data.toList) w := by kernel_rfl
theorem ptr49 (w : World) : (FmtStop.ptrTo "errors.errorString").run Ybaf.prog w = .ok 49 w := by kernel_rfl
theorem elem49 (w : World) : (elemOf 49).run Ybaf.prog w = .ok 51 w := by kernel_rfl
theorem isError49 (w : World) : (FmtDoors.textMethod 49 "Error").run Ybaf.prog w = .ok true w := by kernel_rfl
def star : String := String.ofList [Char.ofNat 42]
def plain49 : List UInt8 := 14 :: FmtStop.pack (star ++ "errors.errorString").toUTF8.data.toList
theorem opPlain49_119w (name : String) (a : Addr) (s : ByteArray) (w : World) (hc : w.cell? a = some (.string s)) :
    (FmtStop.operand name true 119 false (.iface 49 (.pointer (some a)))).run Ybaf.prog w = .ok (plain49, s.data.toList) w := by
  have h1 : (typeStr 49).run Ybaf.prog w = .ok (star ++ "errors.errorString") w := by kernel_rfl
  have d2 : Ybaf.t49.desc = .pointer 51 := rfl
  have d3 : Ybaf.t51.desc = .named "errors.errorString" 50 := rfl
  simp [FmtStop.operand, h1, d2, d3, run_load, hc, plain49]
theorem ptr59 (w : World) : (FmtStop.ptrTo "fmt.wrapError").run Ybaf.prog w = .ok 59 w := by kernel_rfl
theorem elem59 (w : World) : (elemOf 59).run Ybaf.prog w = .ok 108 w := by kernel_rfl
theorem isError59 (w : World) : (FmtDoors.textMethod 59 "Error").run Ybaf.prog w = .ok true w := by kernel_rfl

/-! what 'reflectlite.TypeOf(target).Comparable()' gives at such a target -/
theorem isTypeOf (v : Value) (w : World) : (Extern.ReflectliteType.typeOf #[.iface 49 v]).run Ybaf.prog w = .ok (.iface 61 (.agg #[.pointer (some ⟨0, 49, none⟩)])) w := by kernel_rfl
theorem isComparable (w : World) : (callFunc 38 #[.agg #[.pointer (some ⟨0, 49, none⟩)]]).run Ybaf.prog w = .ok (.value (.bool true)) w := by
  rw [@run_callFunc_extern Ybaf.prog 38 _ (Extern.ReflectliteType.method fun t => do Extern.Rtype.noPackHeld "Comparable" t; pure (.bool (← typeInfo t).comparable)) Ybaf.func38 (by kernel_rfl) (by kernel_rfl) (by kernel_rfl) (by kernel_rfl)]
  kernel_rfl
theorem isMethodComparable (v : Value) (w : World) : (Go.method 239 61 v "Comparable").run Ybaf.prog w = .ok (38, v) w := by kernel_rfl
theorem isComp : (Ybaf.prog.info? 49).map (·.comparable) = some true := by kernel_rfl
theorem isSize : (Ybaf.prog.info? 51).map (·.size) = some 1 := by kernel_rfl
theorem noIsE (v : Value) (xT : TypeId) (w : World) : (Instr.typeAssert (.iface 49 v) xT 63 true).run Ybaf.prog w = .ok (.tuple #[.nilIface, .bool false]) w := run_typeAssert_lacksB Ybaf.underlying63 (by kernel_rfl) (by kernel_rfl) v xT w
theorem noIsW (v : Value) (xT : TypeId) (w : World) : (Instr.typeAssert (.iface 59 v) xT 63 true).run Ybaf.prog w = .ok (.tuple #[.nilIface, .bool false]) w := run_typeAssert_lacksB Ybaf.underlying63 (by kernel_rfl) (by kernel_rfl) v xT w
theorem hasUnwrapW (v : Value) (xT : TypeId) (w : World) : (Instr.typeAssert (.iface 59 v) xT 66 true).run Ybaf.prog w = .ok (.tuple #[.iface 59 v, .bool true]) w := run_typeAssert_hasB Ybaf.underlying66 (by kernel_rfl) v xT w
theorem methodUnwrap (v : Value) (w : World) : (Go.method 239 59 v "Unwrap").run Ybaf.prog w = .ok (34, v) w := by kernel_rfl
theorem methodErr (v : Value) (w : World) : (Go.method 239 43 v "Err").run Ybaf.prog w = .ok (26, v) w := by kernel_rfl

set_option maxRecDepth 100000 in
set_option maxHeartbeats 1000000 in
/-- errors.Is(e, x), e a *fmt.wrapError that wraps x itself: one Unwrap, then equal. -/
theorem is_wrap_same (pb po : Nat) (b : Addr) (w : World) (h1 : w.cell? ⟨pb, po + 1, none⟩ = some (.iface 49 (.pointer (some b)))) :
    Calls Ybaf.prog 6 #[.iface 59 (.pointer (some ⟨pb, po, none⟩)), .iface 49 (.pointer (some b))] w fun e w' => e = .returned (.bool true) ∧ w' = w := by
  obtain ⟨i, hi, hcmp⟩ := Option.map_eq_some_iff.1 isComp
  obtain ⟨j, hj, hjs⟩ := Option.map_eq_some_iff.1 isSize
  have h8 := @run_callFunc_extern Ybaf.prog 8 _ Extern.ReflectliteType.typeOf Ybaf.func8 (by kernel_rfl) (by kernel_rfl) (by kernel_rfl) (by kernel_rfl)
  have tT := isTypeOf
  have cT := isComparable
  have mR := isMethodComparable
  have nE := noIsE
  have nW := noIsW
  have uW := hasUnwrapW
  have mU := methodUnwrap
  have heq := run_eql_iface_ptr_same (P := Ybaf.prog) w b Ybaf.underlying23 Ybaf.underlying49 hi hcmp hj
  have hty := run_eql_iface_types (P := Ybaf.prog) 59 49 (.pointer (some ⟨pb, po, none⟩)) (.pointer (some b)) Ybaf.underlying23 (by decide) w
  go_enter Ybaf.func6, Ybaf.ntmps6
  go_wp2
  refine wp_loop_rounds 2 ?_
  rw [rounds_succ]
  go_wp2
  rw [rounds_succ]
  go_wp2
  go_ret
  exact ⟨rfl, rfl⟩

end Go.Proofs.YbulkbtikFmt
