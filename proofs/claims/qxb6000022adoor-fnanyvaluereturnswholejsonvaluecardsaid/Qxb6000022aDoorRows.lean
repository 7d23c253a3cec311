/-
  NARROWER THAN 'FOR EVERY INPUT', by the rows' own cells (each row's printed sentence says how): FnAnyValueReturnsWholeJSONValue: laid · FnPlainAndAnyValueAgreeBeforeDelimiter: laid.
  DERIVED. THE GIVEN ROWS OF THIS SEAT. 2 by the template 'for every input the law returns true; each argument reads behind the call as it read before'; 0 by the template 'total and deterministic' (their statements: Qxb6000022aDoorTotals.lean).
  GIVEN WITH THE SEED: the statements are not yours to turn. If you find one false, say at which input.
  Laid BY PROGRAM, IN A SANDBOX (cutbox-rows.mjs): the forced cells as the released guide's own fill.sh prints them over the translation a3dd8d1daec252c3… (all of the seat's roots in one cut). By AI agents, Wed Nov 11 2026. No macro, syntax, notation, axiom, sorry.
-/
import Derived.Test.Qxb6000022aDoorChecked
import GoSem.PinnedTables
import GoSem.Claim
import GoSem.ClaimJoined
import GoSem.ClaimMapViews
import Derived.JoinedTies
import Derived.KernelRfl
namespace Go.Proofs.Qxb6000022aDoor
/- THE CELL 'sum', in the pinned program and in every row, IS THE sha256 OF THE DUMP (.gsa) THAT Qxb6000022aDoorProg.lean LOADS. Nothing in Lean hashes anything: it is a label: what it is worth is what the hold of that sum in a sandbox is worth. -/
noncomputable def Tryd.pinned : Pinned := { name := "qxb6000022adoor", sum := "a3dd8d1daec252c335f50cc34dcfdacb4afeccf6e89e497a887afc1a091dbc15", checked := Tryd.checked }
namespace Rows
def none {H : Type} : Left H := { results := [], args := [] }

/- WHAT THE LISTED PACKAGE-LEVEL VARIABLES READ AS WHEN THE CALL BEGINS. Each datum BY PROGRAM (the guide's laid-datum.mjs) off the statement by which the dump's own 'gosem.cut.vars' lays the variable. In a bare row this is a premise. The card (Qxb6000022aDoorCards.lean) ties it to the program's text. -/
def laid_unicode_utf8_acceptRanges {H : Type} : DataW H := .agg [.agg [.lit (.int .u8 128), .lit (.int .u8 191)], .agg [.lit (.int .u8 160), .lit (.int .u8 191)], .agg [.lit (.int .u8 128), .lit (.int .u8 159)], .agg [.lit (.int .u8 144), .lit (.int .u8 191)], .agg [.lit (.int .u8 128), .lit (.int .u8 143)], .agg [.lit (.int .u8 0), .lit (.int .u8 0)], .agg [.lit (.int .u8 0), .lit (.int .u8 0)], .agg [.lit (.int .u8 0), .lit (.int .u8 0)], .agg [.lit (.int .u8 0), .lit (.int .u8 0)], .agg [.lit (.int .u8 0), .lit (.int .u8 0)], .agg [.lit (.int .u8 0), .lit (.int .u8 0)], .agg [.lit (.int .u8 0), .lit (.int .u8 0)], .agg [.lit (.int .u8 0), .lit (.int .u8 0)], .agg [.lit (.int .u8 0), .lit (.int .u8 0)], .agg [.lit (.int .u8 0), .lit (.int .u8 0)], .agg [.lit (.int .u8 0), .lit (.int .u8 0)]]
/-- One of Go's own tables, pinned by name: the form's constant. -/
def laid_unicode_utf8_first : DataW Unit := Go.Pinned.utf8First

/-- 'zzlaws_internal_jsonobject_b1.FnAnyValueReturnsWholeJSONValue': WHATEVER THE INPUT: true; the input reads as it did. -/
def fnAnyValueReturnsWholeJSONValueSpec : ChangeSpec := { name := "fnAnyValueReturnsWholeJSONValue", fn := fun _ => fun
  | [d1, d2, d3] => { results := [.lit (.bool true)], args := [d1, d2, d3] }
  | _ => none }
def fnAnyValueReturnsWholeJSONValueRow : OpenClaim := { program := "qxb6000022adoor", sum := "a3dd8d1daec252c335f50cc34dcfdacb4afeccf6e89e497a887afc1a091dbc15", func := "example.com/kinkline/kinkline/zzlaws_internal_jsonobject_b1.FnAnyValueReturnsWholeJSONValue", spec := "fnAnyValueReturnsWholeJSONValue", inPlace := ["internal/bytealg.IndexByteString", "internal/bytealg.IndexByte", "internal/bytealg.Index", "internal/bytealg.IndexString"], recurses := true, named := ["internal/bytealg.MaxLen", "unicode/utf8.first", "unicode/utf8.acceptRanges"], apart := false, laid := [("unicode/utf8.acceptRanges", laid_unicode_utf8_acceptRanges), ("unicode/utf8.first", laid_unicode_utf8_first)] }
def FnAnyValueReturnsWholeJSONValueSaid : Prop := fnAnyValueReturnsWholeJSONValueRow.holds Tryd.pinned (OpenSpec.ofChange fnAnyValueReturnsWholeJSONValueSpec)

/-- ITS FALSE NEIGHBOUR: 'it returns false'. Refute it at one input. -/
def fnAnyValueReturnsWholeJSONValueWrong : ChangeSpec := { name := "fnAnyValueReturnsWholeJSONValue", fn := fun _ => fun
  | [d1, d2, d3] => { results := [.lit (.bool false)], args := [d1, d2, d3] }
  | _ => none }
def FnAnyValueReturnsWholeJSONValueWrongFalsely : Prop := fnAnyValueReturnsWholeJSONValueRow.holds Tryd.pinned (OpenSpec.ofChange fnAnyValueReturnsWholeJSONValueWrong)

/-- 'zzlaws_internal_jsonobject_b1.FnPlainAndAnyValueAgreeBeforeDelimiter': WHATEVER THE INPUT: true; the input reads as it did. -/
def fnPlainAndAnyValueAgreeBeforeDelimiterSpec : ChangeSpec := { name := "fnPlainAndAnyValueAgreeBeforeDelimiter", fn := fun _ => fun
  | [d1, d2, d3, d4] => { results := [.lit (.bool true)], args := [d1, d2, d3, d4] }
  | _ => none }
def fnPlainAndAnyValueAgreeBeforeDelimiterRow : OpenClaim := { program := "qxb6000022adoor", sum := "a3dd8d1daec252c335f50cc34dcfdacb4afeccf6e89e497a887afc1a091dbc15", func := "example.com/kinkline/kinkline/zzlaws_internal_jsonobject_b1.FnPlainAndAnyValueAgreeBeforeDelimiter", spec := "fnPlainAndAnyValueAgreeBeforeDelimiter", inPlace := ["internal/bytealg.IndexByteString", "internal/bytealg.IndexByte", "internal/bytealg.Index", "internal/bytealg.IndexString"], named := ["internal/bytealg.MaxLen", "unicode/utf8.first", "unicode/utf8.acceptRanges"], apart := false, laid := [("unicode/utf8.acceptRanges", laid_unicode_utf8_acceptRanges), ("unicode/utf8.first", laid_unicode_utf8_first)] }
def FnPlainAndAnyValueAgreeBeforeDelimiterSaid : Prop := fnPlainAndAnyValueAgreeBeforeDelimiterRow.holds Tryd.pinned (OpenSpec.ofChange fnPlainAndAnyValueAgreeBeforeDelimiterSpec)

/-- ITS FALSE NEIGHBOUR: 'it returns false'. Refute it at one input. -/
def fnPlainAndAnyValueAgreeBeforeDelimiterWrong : ChangeSpec := { name := "fnPlainAndAnyValueAgreeBeforeDelimiter", fn := fun _ => fun
  | [d1, d2, d3, d4] => { results := [.lit (.bool false)], args := [d1, d2, d3, d4] }
  | _ => none }
def FnPlainAndAnyValueAgreeBeforeDelimiterWrongFalsely : Prop := fnPlainAndAnyValueAgreeBeforeDelimiterRow.holds Tryd.pinned (OpenSpec.ofChange fnPlainAndAnyValueAgreeBeforeDelimiterWrong)

end Rows
end Go.Proofs.Qxb6000022aDoor
