/-
  Closed facts for the walks over fmt's stopped front and over errors.Is, errors.Unwrap, in this seat's dump. Each by the kernel's own evaluation.
-/
import Derived.Test.Qxb6625454aFmtChecked
import Derived.WalkKit
import Derived.WalkSpells
import Derived.LaidEql
import Derived.Stop.Asserts
import Derived.Stop.CallBack
import Derived.Stop.IfaceNil
import Derived.RowKitTokens
import GoSem.ClaimData
namespace Go.Proofs.Qxb6625454aFmt
open Go.RowKit Go.Extern.Stop Go.Stop Go.Extern

theorem k_call17 (args : Array Value) (w : World) : (callFunc 17 args).run Tryf.prog w = ((FmtStop.errorf #[9, 44] #[28] args).run Tryf.prog w).andThen fun v w' => .ok (.value v) w' :=
  run_callFunc_extern Tryf.func17 (by kernel_rfl) (by kernel_rfl) (by kernel_rfl) (by kernel_rfl) args w
theorem k_guard (name : String) (w : World) : (FmtStop.guard name).run Tryf.prog w = .ok () w := by kernel_rfl
theorem k_fmt0 : FmtStop.printed? ⟨#[110, 111, 116, 32, 74, 83, 79, 78, 58, 32, 37, 119]⟩ 1 = some [(0, 119, false)] := by kernel_rfl
theorem k_fmt0r (w : World) : (FmtDoors.printed ⟨#[110, 111, 116, 32, 74, 83, 79, 78, 58, 32, 37, 119]⟩ 1).run Tryf.prog w = .ok [(0, 119, false)] w := by kernel_rfl
theorem k_fmt1 : FmtStop.printed? ⟨#[110, 111, 116, 32, 74, 83, 79, 78, 58, 32, 37, 119]⟩ 0 = some [] := by kernel_rfl
theorem k_fmt1r (w : World) : (FmtDoors.printed ⟨#[110, 111, 116, 32, 74, 83, 79, 78, 58, 32, 37, 119]⟩ 0).run Tryf.prog w = .ok [] w := by kernel_rfl
theorem k_ptr32 (w : World) : (FmtStop.ptrTo "errors.errorString").run Tryf.prog w = .ok 32 w := by kernel_rfl
theorem k_elem32 (w : World) : (elemOf 32).run Tryf.prog w = .ok 34 w := by kernel_rfl
theorem k_isError32 (w : World) : (FmtDoors.textMethod 32 "Error").run Tryf.prog w = .ok true w := by kernel_rfl
theorem k_ptr45 (w : World) : (FmtStop.ptrTo "fmt.wrapError").run Tryf.prog w = .ok 45 w := by kernel_rfl
theorem k_elem45 (w : World) : (elemOf 45).run Tryf.prog w = .ok 79 w := by kernel_rfl
theorem k_isError45 (w : World) : (FmtDoors.textMethod 45 "Error").run Tryf.prog w = .ok true w := by kernel_rfl
def starE : String := String.ofList [Char.ofNat 42, Char.ofNat 101, Char.ofNat 114, Char.ofNat 114, Char.ofNat 111, Char.ofNat 114, Char.ofNat 115, Char.ofNat 46, Char.ofNat 101, Char.ofNat 114, Char.ofNat 114, Char.ofNat 111, Char.ofNat 114, Char.ofNat 83, Char.ofNat 116, Char.ofNat 114, Char.ofNat 105, Char.ofNat 110, Char.ofNat 103]
def plain32 : List UInt8 := 14 :: FmtStop.pack starE.toUTF8.data.toList
theorem k_opPlain32 (name : String) (a : Addr) (s : ByteArray) (w : World) (hc : w.cell? a = some (.string s)) :
    (FmtStop.operand name true 119 false (.iface 32 (.pointer (some a)))).run Tryf.prog w = .ok (plain32, s.data.toList) w := by
  have h1 : (typeStr 32).run Tryf.prog w = .ok starE w := by kernel_rfl
  have d2 : Tryf.t32.desc = .pointer 34 := rfl
  have d3 : Tryf.t34.desc = .named "errors.errorString" 33 := rfl
  simp [FmtStop.operand, h1, d2, d3, run_load, hc, plain32]

/-! errors.Is, errors.Unwrap -/
theorem k_comp32 : (Tryf.prog.info? 32).map (·.comparable) = some true := by kernel_rfl
theorem k_size34 : (Tryf.prog.info? 34).map (fun j => decide (j.size = 0)) = some false := by kernel_rfl
theorem k_noIsE (v : Value) (xT : TypeId) (w : World) : (Instr.typeAssert (.iface 32 v) xT 49 true).run Tryf.prog w = .ok (.tuple #[.nilIface, .bool false]) w := run_typeAssert_lacksB Tryf.underlying49 (by kernel_rfl) (by kernel_rfl) v xT w
theorem k_noUnwrapE (v : Value) (xT : TypeId) (w : World) : (Instr.typeAssert (.iface 32 v) xT 36 true).run Tryf.prog w = .ok (.tuple #[.nilIface, .bool false]) w := run_typeAssert_lacksB Tryf.underlying36 (by kernel_rfl) (by kernel_rfl) v xT w
theorem k_noUnwrapsE (v : Value) (xT : TypeId) (w : World) : (Instr.typeAssert (.iface 32 v) xT 52 true).run Tryf.prog w = .ok (.tuple #[.nilIface, .bool false]) w := run_typeAssert_lacksB Tryf.underlying52 (by kernel_rfl) (by kernel_rfl) v xT w
theorem k_hasUnwrapW (v : Value) (xT : TypeId) (w : World) : (Instr.typeAssert (.iface 45 v) xT 36 true).run Tryf.prog w = .ok (.tuple #[.iface 45 v, .bool true]) w := run_typeAssert_hasB Tryf.underlying36 (by kernel_rfl) v xT w
theorem k_methodUnwrap (v : Value) (w : World) : (Go.method 194 45 v "Unwrap").run Tryf.prog w = .ok (35, v) w := by kernel_rfl
theorem k_methodComparable (v : Value) (w : World) : (Go.method 194 47 v "Comparable").run Tryf.prog w = .ok (39, v) w := by kernel_rfl
end Go.Proofs.Qxb6625454aFmt
