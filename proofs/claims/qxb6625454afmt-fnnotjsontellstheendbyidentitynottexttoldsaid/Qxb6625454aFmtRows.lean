/-
  NARROWER THAN 'FOR EVERY INPUT', by the rows' own cells (each row's printed sentence says how): FnNotJSONWrapsEveryOtherErrorOnce: laid · FnNotJSONTellsTheEndByIdentityNotText: laid.
  DERIVED. THE GIVEN ROWS OF THIS SEAT. 2 by the template 'for every input the law returns true; each argument reads behind the call as it read before'; 0 by the template 'total and deterministic' (their statements: Qxb6625454aFmtTotals.lean).
  GIVEN WITH THE SEED: the statements are not yours to turn. If you find one false, say at which input.
  Laid BY PROGRAM, IN A SANDBOX (cutbox-rows.mjs): the forced cells as the released guide's own fill.sh prints them over the translation b3374e6d80a9d77b… (all of the seat's roots in one cut). By AI agents, Wed Nov 11 2026. No macro, syntax, notation, axiom, sorry.
-/
import Derived.Test.Qxb6625454aFmtChecked
import GoSem.Claim
import GoSem.ClaimJoined
import GoSem.ClaimMapViews
import Derived.JoinedTies
import Derived.KernelRfl
namespace Go.Proofs.Qxb6625454aFmt
/- THE CELL 'sum', in the pinned program and in every row, IS THE sha256 OF THE DUMP (.gsa) THAT Qxb6625454aFmtProg.lean LOADS. Nothing in Lean hashes anything: it is a label: what it is worth is what the hold of that sum in a sandbox is worth. -/
noncomputable def Tryf.pinned : Pinned := { name := "qxb6625454afmt", sum := "b3374e6d80a9d77b0fdf1d0e99347ad2f5a582b9c95c5eaf92b5dd70ec704ed7", checked := Tryf.checked }
namespace Rows
def none {H : Type} : Left H := { results := [], args := [] }

/- WHAT THE LISTED PACKAGE-LEVEL VARIABLES READ AS WHEN THE CALL BEGINS. Each datum BY PROGRAM (the guide's laid-datum.mjs) off the statement by which the dump's own 'gosem.cut.vars' lays the variable. In a bare row this is a premise. The card (Qxb6625454aFmtCards.lean) ties it to the program's text. -/
def laid_io_EOF {H : Type} : DataW H := .iface "*errors.errorString" (.ptr (.agg [.lit (.string [69, 79, 70])]))
def laid_io_ErrUnexpectedEOF {H : Type} : DataW H := .iface "*errors.errorString" (.ptr (.agg [.lit (.string [117, 110, 101, 120, 112, 101, 99, 116, 101, 100, 32, 69, 79, 70])]))

/-- 'zzlaws_jsonobject_b1.FnNotJSONWrapsEveryOtherErrorOnce': WHATEVER THE INPUT: true; the input reads as it did. -/
def fnNotJSONWrapsEveryOtherErrorOnceSpec : ChangeSpec := { name := "fnNotJSONWrapsEveryOtherErrorOnce", fn := fun _ => fun
  | [d] => { results := [.lit (.bool true)], args := [d] }
  | _ => none }
def fnNotJSONWrapsEveryOtherErrorOnceRow : OpenClaim := { program := "qxb6625454afmt", sum := "b3374e6d80a9d77b0fdf1d0e99347ad2f5a582b9c95c5eaf92b5dd70ec704ed7", func := "example.com/signpost/signpost/zzlaws_jsonobject_b1.FnNotJSONWrapsEveryOtherErrorOnce", spec := "fnNotJSONWrapsEveryOtherErrorOnce", stops := ["fmt.errorf"], inPlace := ["fmt.errorf"], unfollowed := true, recurses := true, named := ["io.EOF", "io.ErrUnexpectedEOF"], apart := false, laid := [("io.EOF", laid_io_EOF), ("io.ErrUnexpectedEOF", laid_io_ErrUnexpectedEOF)] }
/-- NO THEOREM (fmt's text is open here; it may be false): for the released tool's asking of the row's closed facts alone. THE STATEMENT IS 'FnNotJSONWrapsEveryOtherErrorOnceToldSaid' (Qxb6625454aFmtCards.lean). -/
def FnNotJSONWrapsEveryOtherErrorOnceFormAsk : Prop := fnNotJSONWrapsEveryOtherErrorOnceRow.holds Tryf.pinned (OpenSpec.ofChange fnNotJSONWrapsEveryOtherErrorOnceSpec)

/-- ITS FALSE NEIGHBOUR: 'it returns false'. Refute it at one input. -/
def fnNotJSONWrapsEveryOtherErrorOnceWrong : ChangeSpec := { name := "fnNotJSONWrapsEveryOtherErrorOnce", fn := fun _ => fun
  | [d] => { results := [.lit (.bool false)], args := [d] }
  | _ => none }
def FnNotJSONWrapsEveryOtherErrorOnceWrongFormAsk : Prop := fnNotJSONWrapsEveryOtherErrorOnceRow.holds Tryf.pinned (OpenSpec.ofChange fnNotJSONWrapsEveryOtherErrorOnceWrong)

/-- 'zzlaws_jsonobject_b1.FnNotJSONTellsTheEndByIdentityNotText': WHATEVER THE INPUT: true; the input reads as it did. -/
def fnNotJSONTellsTheEndByIdentityNotTextSpec : ChangeSpec := { name := "fnNotJSONTellsTheEndByIdentityNotText", fn := fun _ => fun
  | [d] => { results := [.lit (.bool true)], args := [d] }
  | _ => none }
def fnNotJSONTellsTheEndByIdentityNotTextRow : OpenClaim := { program := "qxb6625454afmt", sum := "b3374e6d80a9d77b0fdf1d0e99347ad2f5a582b9c95c5eaf92b5dd70ec704ed7", func := "example.com/signpost/signpost/zzlaws_jsonobject_b1.FnNotJSONTellsTheEndByIdentityNotText", spec := "fnNotJSONTellsTheEndByIdentityNotText", stops := ["fmt.errorf"], inPlace := ["fmt.errorf", "internal/reflectlite.TypeOf"], unfollowed := true, recurses := true, named := ["io.EOF", "io.ErrUnexpectedEOF"], apart := false, laid := [("io.EOF", laid_io_EOF), ("io.ErrUnexpectedEOF", laid_io_ErrUnexpectedEOF)] }
/-- NO THEOREM (fmt's text is open here; it may be false): for the released tool's asking of the row's closed facts alone. THE STATEMENT IS 'FnNotJSONTellsTheEndByIdentityNotTextToldSaid' (Qxb6625454aFmtCards.lean). -/
def FnNotJSONTellsTheEndByIdentityNotTextFormAsk : Prop := fnNotJSONTellsTheEndByIdentityNotTextRow.holds Tryf.pinned (OpenSpec.ofChange fnNotJSONTellsTheEndByIdentityNotTextSpec)

/-- ITS FALSE NEIGHBOUR: 'it returns false'. Refute it at one input. -/
def fnNotJSONTellsTheEndByIdentityNotTextWrong : ChangeSpec := { name := "fnNotJSONTellsTheEndByIdentityNotText", fn := fun _ => fun
  | [d] => { results := [.lit (.bool false)], args := [d] }
  | _ => none }
def FnNotJSONTellsTheEndByIdentityNotTextWrongFormAsk : Prop := fnNotJSONTellsTheEndByIdentityNotTextRow.holds Tryf.pinned (OpenSpec.ofChange fnNotJSONTellsTheEndByIdentityNotTextWrong)

end Rows
end Go.Proofs.Qxb6625454aFmt
