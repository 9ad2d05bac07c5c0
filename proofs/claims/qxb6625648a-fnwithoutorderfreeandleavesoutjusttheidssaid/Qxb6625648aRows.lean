/-
  No cell of these rows narrows 'for every input' (looked for: loops, veiled, ifaces, maps, wideKeys, modest, calm, conditions, laid).
  DERIVED. THE GIVEN ROWS OF THIS SEAT. 2 by the template 'for every input the law returns true; each argument reads behind the call as it read before'; 0 by the template 'total and deterministic' (their statements: Qxb6625648aTotals.lean).
  GIVEN WITH THE SEED: the statements are not yours to turn. If you find one false, say at which input.
  Laid BY PROGRAM, IN A SANDBOX (cutbox-rows.mjs): the forced cells as the released guide's own fill.sh prints them over the translation e4ca20c6e23ab5b2… (all of the seat's roots in one cut). By AI agents, Wed Nov 11 2026. No macro, syntax, notation, axiom, sorry.
-/
import Derived.Test.Qxb6625648aChecked
import GoSem.Claim
import GoSem.ClaimJoined
import GoSem.ClaimMapViews
import Derived.JoinedTies
import Derived.KernelRfl
namespace Go.Proofs.Qxb6625648a
/- THE CELL 'sum', in the pinned program and in every row, IS THE sha256 OF THE DUMP (.gsa) THAT Qxb6625648aProg.lean LOADS. Nothing in Lean hashes anything: it is a label: what it is worth is what the hold of that sum in a sandbox is worth. -/
noncomputable def Try.pinned : Pinned := { name := "qxb6625648a", sum := "e4ca20c6e23ab5b2e6bbfda2175c77ca32f87a322438894c853966f5ab0dbdde", checked := Try.checked }
namespace Rows
def none {H : Type} : Left H := { results := [], args := [] }

/-- 'zzlaws_subid_b1.FnWithoutIsMaximalRunsOfEachRangeLessID': WHATEVER THE INPUT: true; the input reads as it did. -/
def fnWithoutIsMaximalRunsOfEachRangeLessIDSpec : ChangeSpec := { name := "fnWithoutIsMaximalRunsOfEachRangeLessID", fn := fun _ => fun
  | [d1, d2] => { results := [.lit (.bool true)], args := [d1, d2] }
  | _ => none }
def fnWithoutIsMaximalRunsOfEachRangeLessIDRow : OpenClaim := { program := "qxb6625648a", sum := "e4ca20c6e23ab5b2e6bbfda2175c77ca32f87a322438894c853966f5ab0dbdde", func := "example.com/subroot/subroot/zzlaws_subid_b1.FnWithoutIsMaximalRunsOfEachRangeLessID", spec := "fnWithoutIsMaximalRunsOfEachRangeLessID", apart := false }
def FnWithoutIsMaximalRunsOfEachRangeLessIDSaid : Prop := fnWithoutIsMaximalRunsOfEachRangeLessIDRow.holds Try.pinned (OpenSpec.ofChange fnWithoutIsMaximalRunsOfEachRangeLessIDSpec)

/-- ITS FALSE NEIGHBOUR: 'it returns false'. Refute it at one input. -/
def fnWithoutIsMaximalRunsOfEachRangeLessIDWrong : ChangeSpec := { name := "fnWithoutIsMaximalRunsOfEachRangeLessID", fn := fun _ => fun
  | [d1, d2] => { results := [.lit (.bool false)], args := [d1, d2] }
  | _ => none }
def FnWithoutIsMaximalRunsOfEachRangeLessIDWrongFalsely : Prop := fnWithoutIsMaximalRunsOfEachRangeLessIDRow.holds Try.pinned (OpenSpec.ofChange fnWithoutIsMaximalRunsOfEachRangeLessIDWrong)

/-- 'zzlaws_subid_b1.FnWithoutOrderFreeAndLeavesOutJustTheIDs': WHATEVER THE INPUT: true; the input reads as it did. -/
def fnWithoutOrderFreeAndLeavesOutJustTheIDsSpec : ChangeSpec := { name := "fnWithoutOrderFreeAndLeavesOutJustTheIDs", fn := fun _ => fun
  | [d1, d2, d3, d4] => { results := [.lit (.bool true)], args := [d1, d2, d3, d4] }
  | _ => none }
def fnWithoutOrderFreeAndLeavesOutJustTheIDsRow : OpenClaim := { program := "qxb6625648a", sum := "e4ca20c6e23ab5b2e6bbfda2175c77ca32f87a322438894c853966f5ab0dbdde", func := "example.com/subroot/subroot/zzlaws_subid_b1.FnWithoutOrderFreeAndLeavesOutJustTheIDs", spec := "fnWithoutOrderFreeAndLeavesOutJustTheIDs", apart := false }
def FnWithoutOrderFreeAndLeavesOutJustTheIDsSaid : Prop := fnWithoutOrderFreeAndLeavesOutJustTheIDsRow.holds Try.pinned (OpenSpec.ofChange fnWithoutOrderFreeAndLeavesOutJustTheIDsSpec)

/-- ITS FALSE NEIGHBOUR: 'it returns false'. Refute it at one input. -/
def fnWithoutOrderFreeAndLeavesOutJustTheIDsWrong : ChangeSpec := { name := "fnWithoutOrderFreeAndLeavesOutJustTheIDs", fn := fun _ => fun
  | [d1, d2, d3, d4] => { results := [.lit (.bool false)], args := [d1, d2, d3, d4] }
  | _ => none }
def FnWithoutOrderFreeAndLeavesOutJustTheIDsWrongFalsely : Prop := fnWithoutOrderFreeAndLeavesOutJustTheIDsRow.holds Try.pinned (OpenSpec.ofChange fnWithoutOrderFreeAndLeavesOutJustTheIDsWrong)

end Rows
end Go.Proofs.Qxb6625648a
