/-
  DERIVED. GIVEN WITH THE SEED: THE CARDS: each row of Qxb6604084aDoorRows.lean that lists a variable, with what it lists TIED to the program's text (the seventh form; the later family's looks); each row that meets fmt, with fmt's text TOLD by the authors' own Lean function (tested against real Go, not proved from fmt's source: count such statements apart). THE CARD IS WHAT COUNTS. Prove the row's statement (the work); the ties are given (Qxb6604084aDoorTie.lean); close each card by the builder's one call (the guide's Derived/Test/ToyasCard.lean, 'card_holds'). Laid BY PROGRAM, IN A SANDBOX (cutbox-door.mjs). By AI agents, Wed Nov 11 2026. No macro, syntax, notation, axiom, sorry.
-/
import Derived.Test.Qxb6604084aDoorRows
import GoSem.ClaimSeven
namespace Go.Proofs.Qxb6604084aDoor
namespace Rows

/-- THE TIED CARD OF 'zzlaws_root_b1.FnListedExactlyWhenASegment'. -/
def fnListedExactlyWhenASegmentCard : Claim7 := { stood := { row := fnListedExactlyWhenASegmentRow, standIns := [], harness := (true, "efca43ed563ccf220c7f2d8294dd10a871014dae02f8329845b586cadc12a52e"), looks := false }, kinds := [], alts := [], laidByText := true, laidKinds := [.data, .pinned], laidTests := true, laidLooks := .later }
def FnListedExactlyWhenASegmentCardSaid : Prop := Claim7.holds Tryd.pinned (.plain (OpenSpec.ofChange fnListedExactlyWhenASegmentSpec)) fnListedExactlyWhenASegmentCard
end Rows
end Go.Proofs.Qxb6604084aDoor
