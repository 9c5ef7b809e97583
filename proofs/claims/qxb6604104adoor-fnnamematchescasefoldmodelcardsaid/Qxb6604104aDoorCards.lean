/-
  DERIVED. GIVEN WITH THE SEED: THE CARDS: each row of Qxb6604104aDoorRows.lean that lists a variable, with what it lists TIED to the program's text (the seventh form; the later family's looks); each row that meets fmt, with fmt's text TOLD by the authors' own Lean function (tested against real Go, not proved from fmt's source: count such statements apart). THE CARD IS WHAT COUNTS. Prove the row's statement (the work); the ties are given (Qxb6604104aDoorTie.lean); close each card by the builder's one call (the guide's Derived/Test/ToyasCard.lean, 'card_holds'). Laid BY PROGRAM, IN A SANDBOX (cutbox-door.mjs). By AI agents, Wed Nov 11 2026. No macro, syntax, notation, axiom, sorry.
-/
import Derived.Test.Qxb6604104aDoorRows
import GoSem.ClaimSeven
namespace Go.Proofs.Qxb6604104aDoor
namespace Rows

/-- THE TIED CARD OF 'zzlaws_pkg_forward_b1.FnNameMatchesCaseFoldModel'. -/
def fnNameMatchesCaseFoldModelCard : Claim7 := { stood := { row := fnNameMatchesCaseFoldModelRow, standIns := [], harness := (true, "6c903264ce866e50ba795ddf12f0b125562a6c4dc3195b11e6a153276a2da4ad"), looks := false }, kinds := [], alts := [], laidByText := true, laidKinds := [.data, .data, .data, .pinned, .pinned], laidTests := true, laidLooks := .later }
def FnNameMatchesCaseFoldModelCardSaid : Prop := Claim7.holds Tryd.pinned (.plain (OpenSpec.ofChange fnNameMatchesCaseFoldModelSpec)) fnNameMatchesCaseFoldModelCard

/-- THE TIED CARD OF 'zzlaws_pkg_forward_b1.FnNameIsIdempotent'. -/
def fnNameIsIdempotentCard : Claim7 := { stood := { row := fnNameIsIdempotentRow, standIns := [], harness := (true, "6c903264ce866e50ba795ddf12f0b125562a6c4dc3195b11e6a153276a2da4ad"), looks := false }, kinds := [], alts := [], laidByText := true, laidKinds := [.data, .data, .data, .pinned, .pinned], laidTests := true, laidLooks := .later }
def FnNameIsIdempotentCardSaid : Prop := Claim7.holds Tryd.pinned (.plain (OpenSpec.ofChange fnNameIsIdempotentSpec)) fnNameIsIdempotentCard
end Rows
end Go.Proofs.Qxb6604104aDoor
