/-
  No cell of these rows narrows 'for every input' (looked for: loops, veiled, ifaces, maps, wideKeys, modest, calm, conditions, laid).
  DERIVED. THE GIVEN ROWS OF THIS SEAT. 2 by the template 'for every input the law returns true; each argument reads behind the call as it read before'; 0 by the template 'total and deterministic' (their statements: Qxb6625837aTotals.lean).
  GIVEN WITH THE SEED: the statements are not yours to turn. If you find one false, say at which input.
  Laid BY PROGRAM, IN A SANDBOX (cutbox-rows.mjs): the forced cells as the released guide's own fill.sh prints them over the translation bf33abc225bd6fcf… (all of the seat's roots in one cut). By AI agents, Wed Nov 11 2026. No macro, syntax, notation, axiom, sorry.
-/
import Derived.Test.Qxb6625837aChecked
import GoSem.Claim
import GoSem.ClaimJoined
import GoSem.ClaimMapViews
import Derived.JoinedTies
import Derived.KernelRfl
namespace Go.Proofs.Qxb6625837a
/- THE CELL 'sum', in the pinned program and in every row, IS THE sha256 OF THE DUMP (.gsa) THAT Qxb6625837aProg.lean LOADS. Nothing in Lean hashes anything: it is a label: what it is worth is what the hold of that sum in a sandbox is worth. -/
noncomputable def Try.pinned : Pinned := { name := "qxb6625837a", sum := "bf33abc225bd6fcf566ca40f05a1c77057655a6bbf5a9a5019060aadff5f6cb3", checked := Try.checked }
namespace Rows
def none {H : Type} : Left H := { results := [], args := [] }

/-- 'zzlaws_web_b1.FnValidRequestIDIsUnreservedWithoutTilde': WHATEVER THE INPUT: true; the input reads as it did. -/
def fnValidRequestIDIsUnreservedWithoutTildeSpec : ChangeSpec := { name := "fnValidRequestIDIsUnreservedWithoutTilde", fn := fun _ => fun
  | [d] => { results := [.lit (.bool true)], args := [d] }
  | _ => none }
def fnValidRequestIDIsUnreservedWithoutTildeRow : OpenClaim := { program := "qxb6625837a", sum := "bf33abc225bd6fcf566ca40f05a1c77057655a6bbf5a9a5019060aadff5f6cb3", func := "example.com/armatur/armatur/zzlaws_web_b1.FnValidRequestIDIsUnreservedWithoutTilde", spec := "fnValidRequestIDIsUnreservedWithoutTilde", apart := false }
def FnValidRequestIDIsUnreservedWithoutTildeSaid : Prop := fnValidRequestIDIsUnreservedWithoutTildeRow.holds Try.pinned (OpenSpec.ofChange fnValidRequestIDIsUnreservedWithoutTildeSpec)

/-- ITS FALSE NEIGHBOUR: 'it returns false'. Refute it at one input. -/
def fnValidRequestIDIsUnreservedWithoutTildeWrong : ChangeSpec := { name := "fnValidRequestIDIsUnreservedWithoutTilde", fn := fun _ => fun
  | [d] => { results := [.lit (.bool false)], args := [d] }
  | _ => none }
def FnValidRequestIDIsUnreservedWithoutTildeWrongFalsely : Prop := fnValidRequestIDIsUnreservedWithoutTildeRow.holds Try.pinned (OpenSpec.ofChange fnValidRequestIDIsUnreservedWithoutTildeWrong)

/-- 'zzlaws_web_b1.FnValidRequestIDIsPerByteWith65KeptBytesAnd128Cap': WHATEVER THE INPUT: true; the input reads as it did. -/
def fnValidRequestIDIsPerByteWith65KeptBytesAnd128CapSpec : ChangeSpec := { name := "fnValidRequestIDIsPerByteWith65KeptBytesAnd128Cap", fn := fun _ => fun
  | [d] => { results := [.lit (.bool true)], args := [d] }
  | _ => none }
def fnValidRequestIDIsPerByteWith65KeptBytesAnd128CapRow : OpenClaim := { program := "qxb6625837a", sum := "bf33abc225bd6fcf566ca40f05a1c77057655a6bbf5a9a5019060aadff5f6cb3", func := "example.com/armatur/armatur/zzlaws_web_b1.FnValidRequestIDIsPerByteWith65KeptBytesAnd128Cap", spec := "fnValidRequestIDIsPerByteWith65KeptBytesAnd128Cap", apart := false }
def FnValidRequestIDIsPerByteWith65KeptBytesAnd128CapSaid : Prop := fnValidRequestIDIsPerByteWith65KeptBytesAnd128CapRow.holds Try.pinned (OpenSpec.ofChange fnValidRequestIDIsPerByteWith65KeptBytesAnd128CapSpec)

/-- ITS FALSE NEIGHBOUR: 'it returns false'. Refute it at one input. -/
def fnValidRequestIDIsPerByteWith65KeptBytesAnd128CapWrong : ChangeSpec := { name := "fnValidRequestIDIsPerByteWith65KeptBytesAnd128Cap", fn := fun _ => fun
  | [d] => { results := [.lit (.bool false)], args := [d] }
  | _ => none }
def FnValidRequestIDIsPerByteWith65KeptBytesAnd128CapWrongFalsely : Prop := fnValidRequestIDIsPerByteWith65KeptBytesAnd128CapRow.holds Try.pinned (OpenSpec.ofChange fnValidRequestIDIsPerByteWith65KeptBytesAnd128CapWrong)

end Rows
end Go.Proofs.Qxb6625837a
