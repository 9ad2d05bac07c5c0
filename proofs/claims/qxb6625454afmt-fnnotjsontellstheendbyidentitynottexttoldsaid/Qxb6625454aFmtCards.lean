/-
  DERIVED. GIVEN WITH THE SEED: THE CARDS: each row of Qxb6625454aFmtRows.lean that lists a variable, with what it lists TIED to the program's text (the seventh form; the later family's looks); each row that meets fmt, with fmt's text TOLD by the authors' own Lean function (tested against real Go, not proved from fmt's source: count such statements apart). THE CARD IS WHAT COUNTS. Prove the row's statement (the work); the ties are given (Qxb6625454aFmtTie.lean); close each card by the builder's one call (the guide's Derived/Test/ToyasCard.lean, 'card_holds'). Laid BY PROGRAM, IN A SANDBOX (cutbox-door.mjs). By AI agents, Wed Nov 11 2026. No macro, syntax, notation, axiom, sorry.
-/
import Derived.Test.Qxb6625454aFmtRows
import GoSem.ClaimSeven
namespace Go.Proofs.Qxb6625454aFmt
namespace Rows

/-- THE TOLD AND TIED CARD OF 'zzlaws_jsonobject_b1.FnNotJSONWrapsEveryOtherErrorOnce'. -/
def fnNotJSONWrapsEveryOtherErrorOnceCard : Claim7 := { stood := { row := fnNotJSONWrapsEveryOtherErrorOnceRow, standIns := [], harness := (true, "f8308707adf4e0f79f9d7c2daee427650280b0cb62a871d8608e8733568def13"), looks := true }, told := true, laidByText := true, laidKinds := [.sentinel, .sentinel], laidTests := true, laidLooks := .later, goes := false }
def FnNotJSONWrapsEveryOtherErrorOnceToldSaid : Prop := Claim7.holds Tryf.pinned (.plain (OpenSpec.ofChange fnNotJSONWrapsEveryOtherErrorOnceSpec)) fnNotJSONWrapsEveryOtherErrorOnceCard
/-- ITS FALSE NEIGHBOUR. Refute it at one input. -/
def FnNotJSONWrapsEveryOtherErrorOnceToldWrongFalsely : Prop := Claim7.holds Tryf.pinned (.plain (OpenSpec.ofChange fnNotJSONWrapsEveryOtherErrorOnceWrong)) fnNotJSONWrapsEveryOtherErrorOnceCard

/-- THE TOLD AND TIED CARD OF 'zzlaws_jsonobject_b1.FnNotJSONTellsTheEndByIdentityNotText'. -/
def fnNotJSONTellsTheEndByIdentityNotTextCard : Claim7 := { stood := { row := fnNotJSONTellsTheEndByIdentityNotTextRow, standIns := [], harness := (true, "f8308707adf4e0f79f9d7c2daee427650280b0cb62a871d8608e8733568def13"), looks := true }, told := true, laidByText := true, laidKinds := [.sentinel, .sentinel], laidTests := true, laidLooks := .later, goes := false }
def FnNotJSONTellsTheEndByIdentityNotTextToldSaid : Prop := Claim7.holds Tryf.pinned (.plain (OpenSpec.ofChange fnNotJSONTellsTheEndByIdentityNotTextSpec)) fnNotJSONTellsTheEndByIdentityNotTextCard
/-- ITS FALSE NEIGHBOUR. Refute it at one input. -/
def FnNotJSONTellsTheEndByIdentityNotTextToldWrongFalsely : Prop := Claim7.holds Tryf.pinned (.plain (OpenSpec.ofChange fnNotJSONTellsTheEndByIdentityNotTextWrong)) fnNotJSONTellsTheEndByIdentityNotTextCard
end Rows
end Go.Proofs.Qxb6625454aFmt
