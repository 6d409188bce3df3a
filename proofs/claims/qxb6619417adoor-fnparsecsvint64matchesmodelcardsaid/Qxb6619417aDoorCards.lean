/-
  DERIVED. GIVEN WITH THE SEED: THE CARDS: each row of Qxb6619417aDoorRows.lean that lists a variable, with what it lists TIED to the program's text (the seventh form; the later family's looks); each row that meets fmt, with fmt's text TOLD by the authors' own Lean function (tested against real Go, not proved from fmt's source: count such statements apart). THE CARD IS WHAT COUNTS. Prove the row's statement (the work); the ties are given (Qxb6619417aDoorTie.lean); close each card by the builder's one call (the guide's Derived/Test/ToyasCard.lean, 'card_holds'). Laid BY PROGRAM, IN A SANDBOX (cutbox-door.mjs). By AI agents, Wed Nov 11 2026. No macro, syntax, notation, axiom, sorry.
-/
import Derived.Test.Qxb6619417aDoorRows
import GoSem.ClaimSeven
namespace Go.Proofs.Qxb6619417aDoor
namespace Rows

/-- THE TIED CARD OF 'zzlaws_root_b1.FnParseCSVInt64MatchesModel'. -/
def fnParseCSVInt64MatchesModelCard : Claim7 := { stood := { row := fnParseCSVInt64MatchesModelRow, standIns := [], harness := (true, "647a076e3caca89d9a4de41dfc3765328dd554a5d15193a7e2343c97e4013f7f"), looks := true }, kinds := [], alts := [], laidByText := true, laidKinds := [.data, .data, .data, .sentinel, .sentinel], laidTests := true, laidLooks := .later }
def FnParseCSVInt64MatchesModelCardSaid : Prop := Claim7.holds Tryd.pinned (.plain (OpenSpec.ofChange fnParseCSVInt64MatchesModelSpec)) fnParseCSVInt64MatchesModelCard

/-- THE TIED CARD OF 'zzlaws_root_b1.FnParseCSVInt64ReadsEveryInt64Written'. -/
def fnParseCSVInt64ReadsEveryInt64WrittenCard : Claim7 := { stood := { row := fnParseCSVInt64ReadsEveryInt64WrittenRow, standIns := [], harness := (true, "647a076e3caca89d9a4de41dfc3765328dd554a5d15193a7e2343c97e4013f7f"), looks := true }, kinds := [], alts := [], laidByText := true, laidKinds := [.data, .data, .data, .sentinel, .sentinel], laidTests := true, laidLooks := .later }
def FnParseCSVInt64ReadsEveryInt64WrittenCardSaid : Prop := Claim7.holds Tryd.pinned (.plain (OpenSpec.ofChange fnParseCSVInt64ReadsEveryInt64WrittenSpec)) fnParseCSVInt64ReadsEveryInt64WrittenCard

/-- THE TIED CARD OF 'zzlaws_root_b1.FnParsePyShapeMatchesGrammar'. -/
def fnParsePyShapeMatchesGrammarCard : Claim7 := { stood := { row := fnParsePyShapeMatchesGrammarRow, standIns := [], harness := (true, "647a076e3caca89d9a4de41dfc3765328dd554a5d15193a7e2343c97e4013f7f"), looks := true }, kinds := [], alts := [], laidByText := true, laidKinds := [.data, .data, .data, .data, .sentinel, .sentinel, .listed, .data, .pinned], laidTests := true, laidLooks := .later }
def FnParsePyShapeMatchesGrammarCardSaid : Prop := Claim7.holds Tryd.pinned (.plain (OpenSpec.ofChange fnParsePyShapeMatchesGrammarSpec)) fnParsePyShapeMatchesGrammarCard

/-- THE TIED CARD OF 'zzlaws_root_b1.FnParsePyShapeTakesOneMoreDim'. -/
def fnParsePyShapeTakesOneMoreDimCard : Claim7 := { stood := { row := fnParsePyShapeTakesOneMoreDimRow, standIns := [], harness := (true, "647a076e3caca89d9a4de41dfc3765328dd554a5d15193a7e2343c97e4013f7f"), looks := true }, kinds := [], alts := [], laidByText := true, laidKinds := [.data, .data, .data, .data, .sentinel, .sentinel, .listed, .data, .pinned], laidTests := true, laidLooks := .later }
def FnParsePyShapeTakesOneMoreDimCardSaid : Prop := Claim7.holds Tryd.pinned (.plain (OpenSpec.ofChange fnParsePyShapeTakesOneMoreDimSpec)) fnParsePyShapeTakesOneMoreDimCard
end Rows
end Go.Proofs.Qxb6619417aDoor
