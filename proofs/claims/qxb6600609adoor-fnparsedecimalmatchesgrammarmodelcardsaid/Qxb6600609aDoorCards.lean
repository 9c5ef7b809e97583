/-
  DERIVED. GIVEN WITH THE SEED: THE CARDS: each row of Qxb6600609aDoorRows.lean that lists a variable, with what it lists TIED to the program's text (the seventh form; the later family's looks); each row that meets fmt, with fmt's text TOLD by the authors' own Lean function (tested against real Go, not proved from fmt's source: count such statements apart). THE CARD IS WHAT COUNTS. Prove the row's statement (the work); the ties are given (Qxb6600609aDoorTie.lean); close each card by the builder's one call (the guide's Derived/Test/ToyasCard.lean, 'card_holds'). Laid BY PROGRAM, IN A SANDBOX (cutbox-door.mjs). By AI agents, Wed Nov 11 2026. No macro, syntax, notation, axiom, sorry.
-/
import Derived.Test.Qxb6600609aDoorRows
import GoSem.ClaimSeven
namespace Go.Proofs.Qxb6600609aDoor
namespace Rows

/-- THE TIED CARD OF 'zzlaws_internal_query_b1.FnParseDecimalMatchesGrammarModel'. -/
def fnParseDecimalMatchesGrammarModelCard : Claim7 := { stood := { row := fnParseDecimalMatchesGrammarModelRow, standIns := [], harness := (true, "fd09536fa0b4f4038a4f0d73e1541ac46fcc7ad8d5d6f73295cb3e27d58474ae"), looks := true }, kinds := [], alts := [], laidByText := true, laidKinds := [.data, .data, .data, .data, .called, .called, .pinned], laidTests := true, laidLooks := .later }
def FnParseDecimalMatchesGrammarModelCardSaid : Prop := Claim7.holds Tryd.pinned (.plain (OpenSpec.ofChange fnParseDecimalMatchesGrammarModelSpec)) fnParseDecimalMatchesGrammarModelCard

/-- THE TIED CARD OF 'zzlaws_internal_query_b1.FnParseExponentMatchesModel'. -/
def fnParseExponentMatchesModelCard : Claim7 := { stood := { row := fnParseExponentMatchesModelRow, standIns := [], harness := (true, "fd09536fa0b4f4038a4f0d73e1541ac46fcc7ad8d5d6f73295cb3e27d58474ae"), looks := true }, kinds := [], alts := [], laidByText := true, laidKinds := [.data, .data, .data, .data, .called, .called, .pinned], laidTests := true, laidLooks := .later }
def FnParseExponentMatchesModelCardSaid : Prop := Claim7.holds Tryd.pinned (.plain (OpenSpec.ofChange fnParseExponentMatchesModelSpec)) fnParseExponentMatchesModelCard

/-- THE TIED CARD OF 'zzlaws_internal_query_b1.FnParseExponentReadsBackEveryInt64'. -/
def fnParseExponentReadsBackEveryInt64Card : Claim7 := { stood := { row := fnParseExponentReadsBackEveryInt64Row, standIns := [], harness := (true, "fd09536fa0b4f4038a4f0d73e1541ac46fcc7ad8d5d6f73295cb3e27d58474ae"), looks := true }, kinds := [], alts := [], laidByText := true, laidKinds := [.data, .data, .data, .data, .called, .called, .pinned], laidTests := true, laidLooks := .later }
def FnParseExponentReadsBackEveryInt64CardSaid : Prop := Claim7.holds Tryd.pinned (.plain (OpenSpec.ofChange fnParseExponentReadsBackEveryInt64Spec)) fnParseExponentReadsBackEveryInt64Card

/-- THE TIED CARD OF 'zzlaws_internal_query_b1.FnParseDecimalRoundTripsThroughScientificForm'. -/
def fnParseDecimalRoundTripsThroughScientificFormCard : Claim7 := { stood := { row := fnParseDecimalRoundTripsThroughScientificFormRow, standIns := [], harness := (true, "fd09536fa0b4f4038a4f0d73e1541ac46fcc7ad8d5d6f73295cb3e27d58474ae"), looks := true }, kinds := [], alts := [], laidByText := true, laidKinds := [.data, .data, .data, .data, .called, .called, .pinned], laidTests := true, laidLooks := .later }
def FnParseDecimalRoundTripsThroughScientificFormCardSaid : Prop := Claim7.holds Tryd.pinned (.plain (OpenSpec.ofChange fnParseDecimalRoundTripsThroughScientificFormSpec)) fnParseDecimalRoundTripsThroughScientificFormCard
end Rows
end Go.Proofs.Qxb6600609aDoor
