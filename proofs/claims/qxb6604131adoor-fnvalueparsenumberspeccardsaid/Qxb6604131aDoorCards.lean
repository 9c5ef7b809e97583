/-
  DERIVED. GIVEN WITH THE SEED: THE CARDS: each row of Qxb6604131aDoorRows.lean that lists a variable, with what it lists TIED to the program's text (the seventh form; the later family's looks); each row that meets fmt, with fmt's text TOLD by the authors' own Lean function (tested against real Go, not proved from fmt's source: count such statements apart). THE CARD IS WHAT COUNTS. Prove the row's statement (the work); the ties are given (Qxb6604131aDoorTie.lean); close each card by the builder's one call (the guide's Derived/Test/ToyasCard.lean, 'card_holds'). Laid BY PROGRAM, IN A SANDBOX (cutbox-door.mjs). By AI agents, Wed Nov 11 2026. No macro, syntax, notation, axiom, sorry.
-/
import Derived.Test.Qxb6604131aDoorRows
import GoSem.ClaimSeven
namespace Go.Proofs.Qxb6604131aDoor
namespace Rows

/-- THE TIED CARD OF 'zzlaws_pkg_value_b1.FnValueRoundSpec'. -/
def fnValueRoundSpecCard : Claim7 := { stood := { row := fnValueRoundSpecRow, standIns := [], harness := (true, "5bfd97e5a4db07136a87b254e6baccfd1e1d7f6661c17a3948e411466eecb477"), looks := false }, kinds := [], alts := [], laidByText := true, laidKinds := [.data, .pinned], laidTests := true, laidLooks := .later }
def FnValueRoundSpecCardSaid : Prop := Claim7.holds Tryd.pinned (.plain (OpenSpec.ofChange fnValueRoundSpecSpec)) fnValueRoundSpecCard

/-- THE TIED CARD OF 'zzlaws_pkg_value_b1.FnValueRoundIdempotent'. -/
def fnValueRoundIdempotentCard : Claim7 := { stood := { row := fnValueRoundIdempotentRow, standIns := [], harness := (true, "5bfd97e5a4db07136a87b254e6baccfd1e1d7f6661c17a3948e411466eecb477"), looks := false }, kinds := [], alts := [], laidByText := true, laidKinds := [.data, .pinned], laidTests := true, laidLooks := .later }
def FnValueRoundIdempotentCardSaid : Prop := Claim7.holds Tryd.pinned (.plain (OpenSpec.ofChange fnValueRoundIdempotentSpec)) fnValueRoundIdempotentCard

/-- THE TIED CARD OF 'zzlaws_pkg_value_b1.FnValueParseNumberSpec'. -/
def fnValueParseNumberSpecCard : Claim7 := { stood := { row := fnValueParseNumberSpecRow, standIns := [], harness := (true, "5bfd97e5a4db07136a87b254e6baccfd1e1d7f6661c17a3948e411466eecb477"), looks := false }, kinds := [], alts := [], laidByText := true, laidKinds := [.data, .pinned], laidTests := true, laidLooks := .later }
def FnValueParseNumberSpecCardSaid : Prop := Claim7.holds Tryd.pinned (.plain (OpenSpec.ofChange fnValueParseNumberSpecSpec)) fnValueParseNumberSpecCard
end Rows
end Go.Proofs.Qxb6604131aDoor
