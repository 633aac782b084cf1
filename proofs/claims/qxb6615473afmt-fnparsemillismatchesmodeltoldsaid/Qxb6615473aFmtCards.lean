/-
  DERIVED. GIVEN WITH THE SEED: THE CARDS: each row of Qxb6615473aFmtRows.lean that lists a variable, with what it lists TIED to the program's text (the seventh form; the later family's looks); each row that meets fmt, with fmt's text TOLD by the authors' own Lean function (tested against real Go, not proved from fmt's source: count such statements apart). THE CARD IS WHAT COUNTS. Prove the row's statement (the work); the ties are given (Qxb6615473aFmtTie.lean); close each card by the builder's one call (the guide's Derived/Test/ToyasCard.lean, 'card_holds'). Laid BY PROGRAM, IN A SANDBOX (cutbox-door.mjs). By AI agents, Wed Nov 11 2026. No macro, syntax, notation, axiom, sorry.
-/
import Derived.Test.Qxb6615473aFmtRows
import GoSem.ClaimSeven
namespace Go.Proofs.Qxb6615473aFmt
namespace Rows

/-- THE TOLD AND TIED CARD OF 'zzlaws_root_b1.FnParseMillisMatchesModel'. -/
def fnParseMillisMatchesModelCard : Claim7 := { stood := { row := fnParseMillisMatchesModelRow, standIns := [], harness := (true, "161e1b92599e6e93d1225955df13f8fd9ffac7022971143e3e4f2f3079410a9c"), looks := true }, told := true, laidByText := true, laidKinds := [.data, .data, .data, .sentinel, .sentinel, .data], laidTests := true, laidLooks := .later, goes := false }
def FnParseMillisMatchesModelToldSaid : Prop := Claim7.holds Tryf.pinned (.plain (OpenSpec.ofChange fnParseMillisMatchesModelSpec)) fnParseMillisMatchesModelCard
/-- ITS FALSE NEIGHBOUR. Refute it at one input. -/
def FnParseMillisMatchesModelToldWrongFalsely : Prop := Claim7.holds Tryf.pinned (.plain (OpenSpec.ofChange fnParseMillisMatchesModelWrong)) fnParseMillisMatchesModelCard

/-- THE TOLD AND TIED CARD OF 'zzlaws_root_b1.FnParseReadsEncodedFormsAlike'. -/
def fnParseReadsEncodedFormsAlikeCard : Claim7 := { stood := { row := fnParseReadsEncodedFormsAlikeRow, standIns := [], harness := (true, "161e1b92599e6e93d1225955df13f8fd9ffac7022971143e3e4f2f3079410a9c"), looks := true }, told := true, laidByText := true, laidKinds := [.data, .data, .data, .sentinel, .sentinel, .data], laidTests := true, laidLooks := .later, goes := false }
def FnParseReadsEncodedFormsAlikeToldSaid : Prop := Claim7.holds Tryf.pinned (.plain (OpenSpec.ofChange fnParseReadsEncodedFormsAlikeSpec)) fnParseReadsEncodedFormsAlikeCard
/-- ITS FALSE NEIGHBOUR. Refute it at one input. -/
def FnParseReadsEncodedFormsAlikeToldWrongFalsely : Prop := Claim7.holds Tryf.pinned (.plain (OpenSpec.ofChange fnParseReadsEncodedFormsAlikeWrong)) fnParseReadsEncodedFormsAlikeCard
end Rows
end Go.Proofs.Qxb6615473aFmt
