/-
  No cell of these rows narrows 'for every input' (looked for: loops, veiled, ifaces, maps, wideKeys, modest, calm, conditions, laid).
  DERIVED. THE GIVEN ROWS OF THIS SEAT. 2 by the template 'for every input the law returns true; each argument reads behind the call as it read before'; 0 by the template 'total and deterministic' (their statements: Qxb6625879aTotals.lean).
  GIVEN WITH THE SEED: the statements are not yours to turn. If you find one false, say at which input.
  Laid BY PROGRAM, IN A SANDBOX (cutbox-rows.mjs): the forced cells as the released guide's own fill.sh prints them over the translation b4607fb66e50a42e… (all of the seat's roots in one cut). By AI agents, Wed Nov 11 2026. No macro, syntax, notation, axiom, sorry.
-/
import Derived.Test.Qxb6625879aChecked
import GoSem.Claim
import GoSem.ClaimJoined
import GoSem.ClaimMapViews
import Derived.JoinedTies
import Derived.KernelRfl
namespace Go.Proofs.Qxb6625879a
/- THE CELL 'sum', in the pinned program and in every row, IS THE sha256 OF THE DUMP (.gsa) THAT Qxb6625879aProg.lean LOADS. Nothing in Lean hashes anything: it is a label: what it is worth is what the hold of that sum in a sandbox is worth. -/
noncomputable def Try.pinned : Pinned := { name := "qxb6625879a", sum := "b4607fb66e50a42e50dc944aa1b3027f6b1997adaca6bd813f83bf179e64d024", checked := Try.checked }
namespace Rows
def none {H : Type} : Left H := { results := [], args := [] }

/-- 'zzlaws_root_b1.FnTotalShiftsByDelta': WHATEVER THE INPUT: true; the input reads as it did. -/
def fnTotalShiftsByDeltaSpec : ChangeSpec := { name := "fnTotalShiftsByDelta", fn := fun _ => fun
  | [d1, d2, d3] => { results := [.lit (.bool true)], args := [d1, d2, d3] }
  | _ => none }
def fnTotalShiftsByDeltaRow : OpenClaim := { program := "qxb6625879a", sum := "b4607fb66e50a42e50dc944aa1b3027f6b1997adaca6bd813f83bf179e64d024", func := "example.com/lockwright/lockwright/zzlaws_root_b1.FnTotalShiftsByDelta", spec := "fnTotalShiftsByDelta", apart := false }
def FnTotalShiftsByDeltaSaid : Prop := fnTotalShiftsByDeltaRow.holds Try.pinned (OpenSpec.ofChange fnTotalShiftsByDeltaSpec)

/-- ITS FALSE NEIGHBOUR: 'it returns false'. Refute it at one input. -/
def fnTotalShiftsByDeltaWrong : ChangeSpec := { name := "fnTotalShiftsByDelta", fn := fun _ => fun
  | [d1, d2, d3] => { results := [.lit (.bool false)], args := [d1, d2, d3] }
  | _ => none }
def FnTotalShiftsByDeltaWrongFalsely : Prop := fnTotalShiftsByDeltaRow.holds Try.pinned (OpenSpec.ofChange fnTotalShiftsByDeltaWrong)

/-- 'zzlaws_root_b1.FnTotalSplitsAtAnyCut': WHATEVER THE INPUT: true; the input reads as it did. -/
def fnTotalSplitsAtAnyCutSpec : ChangeSpec := { name := "fnTotalSplitsAtAnyCut", fn := fun _ => fun
  | [d1, d2] => { results := [.lit (.bool true)], args := [d1, d2] }
  | _ => none }
def fnTotalSplitsAtAnyCutRow : OpenClaim := { program := "qxb6625879a", sum := "b4607fb66e50a42e50dc944aa1b3027f6b1997adaca6bd813f83bf179e64d024", func := "example.com/lockwright/lockwright/zzlaws_root_b1.FnTotalSplitsAtAnyCut", spec := "fnTotalSplitsAtAnyCut", apart := false }
def FnTotalSplitsAtAnyCutSaid : Prop := fnTotalSplitsAtAnyCutRow.holds Try.pinned (OpenSpec.ofChange fnTotalSplitsAtAnyCutSpec)

/-- ITS FALSE NEIGHBOUR: 'it returns false'. Refute it at one input. -/
def fnTotalSplitsAtAnyCutWrong : ChangeSpec := { name := "fnTotalSplitsAtAnyCut", fn := fun _ => fun
  | [d1, d2] => { results := [.lit (.bool false)], args := [d1, d2] }
  | _ => none }
def FnTotalSplitsAtAnyCutWrongFalsely : Prop := fnTotalSplitsAtAnyCutRow.holds Try.pinned (OpenSpec.ofChange fnTotalSplitsAtAnyCutWrong)

end Rows
end Go.Proofs.Qxb6625879a
