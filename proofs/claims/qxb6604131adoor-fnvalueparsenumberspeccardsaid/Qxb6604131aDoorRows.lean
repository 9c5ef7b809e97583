/-
  NARROWER THAN 'FOR EVERY INPUT', by the rows' own cells (each row's printed sentence says how): FnValueRoundSpec: laid · FnValueRoundIdempotent: laid · FnValueParseNumberSpec: laid.
  DERIVED. THE GIVEN ROWS OF THIS SEAT. 3 by the template 'for every input the law returns true; each argument reads behind the call as it read before'; 0 by the template 'total and deterministic' (their statements: Qxb6604131aDoorTotals.lean).
  GIVEN WITH THE SEED: the statements are not yours to turn. If you find one false, say at which input.
  Laid BY PROGRAM, IN A SANDBOX (cutbox-rows.mjs): the forced cells as the released guide's own fill.sh prints them over the translation 85c65c8bfe8655d4… (all of the seat's roots in one cut). By AI agents, Wed Nov 11 2026. No macro, syntax, notation, axiom, sorry.
-/
import Derived.Test.Qxb6604131aDoorChecked
import GoSem.PinnedTables
import GoSem.Claim
import GoSem.ClaimJoined
import GoSem.ClaimMapViews
import Derived.JoinedTies
import Derived.KernelRfl
namespace Go.Proofs.Qxb6604131aDoor
/- THE CELL 'sum', in the pinned program and in every row, IS THE sha256 OF THE DUMP (.gsa) THAT Qxb6604131aDoorProg.lean LOADS. Nothing in Lean hashes anything: it is a label: what it is worth is what the hold of that sum in a sandbox is worth. -/
noncomputable def Tryd.pinned : Pinned := { name := "qxb6604131adoor", sum := "85c65c8bfe8655d4b90b02e9868dd98cf6e5d207f93d6bbb587bcbc54063e9ea", checked := Tryd.checked }
namespace Rows
def none {H : Type} : Left H := { results := [], args := [] }

/- WHAT THE LISTED PACKAGE-LEVEL VARIABLES READ AS WHEN THE CALL BEGINS. Each datum BY PROGRAM (the guide's laid-datum.mjs) off the statement by which the dump's own 'gosem.cut.vars' lays the variable. In a bare row this is a premise. The card (Qxb6604131aDoorCards.lean) ties it to the program's text. -/
def laid_unicode_utf8_acceptRanges {H : Type} : DataW H := .agg [.agg [.lit (.int .u8 128), .lit (.int .u8 191)], .agg [.lit (.int .u8 160), .lit (.int .u8 191)], .agg [.lit (.int .u8 128), .lit (.int .u8 159)], .agg [.lit (.int .u8 144), .lit (.int .u8 191)], .agg [.lit (.int .u8 128), .lit (.int .u8 143)], .agg [.lit (.int .u8 0), .lit (.int .u8 0)], .agg [.lit (.int .u8 0), .lit (.int .u8 0)], .agg [.lit (.int .u8 0), .lit (.int .u8 0)], .agg [.lit (.int .u8 0), .lit (.int .u8 0)], .agg [.lit (.int .u8 0), .lit (.int .u8 0)], .agg [.lit (.int .u8 0), .lit (.int .u8 0)], .agg [.lit (.int .u8 0), .lit (.int .u8 0)], .agg [.lit (.int .u8 0), .lit (.int .u8 0)], .agg [.lit (.int .u8 0), .lit (.int .u8 0)], .agg [.lit (.int .u8 0), .lit (.int .u8 0)], .agg [.lit (.int .u8 0), .lit (.int .u8 0)]]
/-- One of Go's own tables, pinned by name: the form's constant. -/
def laid_unicode_utf8_first : DataW Unit := Go.Pinned.utf8First

/-- 'zzlaws_pkg_value_b1.FnValueRoundSpec': WHATEVER THE INPUT: true; the input reads as it did. -/
def fnValueRoundSpecSpec : ChangeSpec := { name := "fnValueRoundSpec", fn := fun _ => fun
  | [d1, d2, d3, d4] => { results := [.lit (.bool true)], args := [d1, d2, d3, d4] }
  | _ => none }
def fnValueRoundSpecRow : OpenClaim := { program := "qxb6604131adoor", sum := "85c65c8bfe8655d4b90b02e9868dd98cf6e5d207f93d6bbb587bcbc54063e9ea", func := "example.com/epochline/epochline/zzlaws_pkg_value_b1.FnValueRoundSpec", spec := "fnValueRoundSpec", inPlace := ["internal/abi.NoEscape", "internal/bytealg.MakeNoZero", "internal/bytealg.IndexByteString", "internal/bytealg.IndexString"], named := ["unicode/utf8.first", "unicode/utf8.acceptRanges", "internal/bytealg.MaxLen"], apart := false, laid := [("unicode/utf8.acceptRanges", laid_unicode_utf8_acceptRanges), ("unicode/utf8.first", laid_unicode_utf8_first)] }
def FnValueRoundSpecSaid : Prop := fnValueRoundSpecRow.holds Tryd.pinned (OpenSpec.ofChange fnValueRoundSpecSpec)

/-- ITS FALSE NEIGHBOUR: 'it returns false'. Refute it at one input. -/
def fnValueRoundSpecWrong : ChangeSpec := { name := "fnValueRoundSpec", fn := fun _ => fun
  | [d1, d2, d3, d4] => { results := [.lit (.bool false)], args := [d1, d2, d3, d4] }
  | _ => none }
def FnValueRoundSpecWrongFalsely : Prop := fnValueRoundSpecRow.holds Tryd.pinned (OpenSpec.ofChange fnValueRoundSpecWrong)

/-- 'zzlaws_pkg_value_b1.FnValueRoundIdempotent': WHATEVER THE INPUT: true; the input reads as it did. -/
def fnValueRoundIdempotentSpec : ChangeSpec := { name := "fnValueRoundIdempotent", fn := fun _ => fun
  | [d1, d2, d3, d4] => { results := [.lit (.bool true)], args := [d1, d2, d3, d4] }
  | _ => none }
def fnValueRoundIdempotentRow : OpenClaim := { program := "qxb6604131adoor", sum := "85c65c8bfe8655d4b90b02e9868dd98cf6e5d207f93d6bbb587bcbc54063e9ea", func := "example.com/epochline/epochline/zzlaws_pkg_value_b1.FnValueRoundIdempotent", spec := "fnValueRoundIdempotent", inPlace := ["internal/abi.NoEscape", "internal/bytealg.MakeNoZero", "internal/bytealg.IndexByteString", "internal/bytealg.IndexString"], named := ["unicode/utf8.first", "unicode/utf8.acceptRanges", "internal/bytealg.MaxLen"], apart := false, laid := [("unicode/utf8.acceptRanges", laid_unicode_utf8_acceptRanges), ("unicode/utf8.first", laid_unicode_utf8_first)] }
def FnValueRoundIdempotentSaid : Prop := fnValueRoundIdempotentRow.holds Tryd.pinned (OpenSpec.ofChange fnValueRoundIdempotentSpec)

/-- ITS FALSE NEIGHBOUR: 'it returns false'. Refute it at one input. -/
def fnValueRoundIdempotentWrong : ChangeSpec := { name := "fnValueRoundIdempotent", fn := fun _ => fun
  | [d1, d2, d3, d4] => { results := [.lit (.bool false)], args := [d1, d2, d3, d4] }
  | _ => none }
def FnValueRoundIdempotentWrongFalsely : Prop := fnValueRoundIdempotentRow.holds Tryd.pinned (OpenSpec.ofChange fnValueRoundIdempotentWrong)

/-- 'zzlaws_pkg_value_b1.FnValueParseNumberSpec': WHATEVER THE INPUT: true; the input reads as it did. -/
def fnValueParseNumberSpecSpec : ChangeSpec := { name := "fnValueParseNumberSpec", fn := fun _ => fun
  | [d] => { results := [.lit (.bool true)], args := [d] }
  | _ => none }
def fnValueParseNumberSpecRow : OpenClaim := { program := "qxb6604131adoor", sum := "85c65c8bfe8655d4b90b02e9868dd98cf6e5d207f93d6bbb587bcbc54063e9ea", func := "example.com/epochline/epochline/zzlaws_pkg_value_b1.FnValueParseNumberSpec", spec := "fnValueParseNumberSpec", inPlace := ["internal/bytealg.IndexByteString", "internal/bytealg.IndexString", "internal/abi.NoEscape", "internal/bytealg.MakeNoZero"], named := ["internal/bytealg.MaxLen", "unicode/utf8.first", "unicode/utf8.acceptRanges"], apart := false, laid := [("unicode/utf8.acceptRanges", laid_unicode_utf8_acceptRanges), ("unicode/utf8.first", laid_unicode_utf8_first)] }
def FnValueParseNumberSpecSaid : Prop := fnValueParseNumberSpecRow.holds Tryd.pinned (OpenSpec.ofChange fnValueParseNumberSpecSpec)

/-- ITS FALSE NEIGHBOUR: 'it returns false'. Refute it at one input. -/
def fnValueParseNumberSpecWrong : ChangeSpec := { name := "fnValueParseNumberSpec", fn := fun _ => fun
  | [d] => { results := [.lit (.bool false)], args := [d] }
  | _ => none }
def FnValueParseNumberSpecWrongFalsely : Prop := fnValueParseNumberSpecRow.holds Tryd.pinned (OpenSpec.ofChange fnValueParseNumberSpecWrong)

end Rows
end Go.Proofs.Qxb6604131aDoor
