/-
  NARROWER THAN 'FOR EVERY INPUT', by the rows' own cells (each row's printed sentence says how): FnPatternIdempotent: laid · FnPatternRoundTrip: laid · FnPatternLengthAndSlashes: laid.
  DERIVED. THE GIVEN ROWS OF THIS SEAT. 3 by the template 'for every input the law returns true; each argument reads behind the call as it read before'; 0 by the template 'total and deterministic' (their statements: Qxb6003569aDoorTotals.lean).
  GIVEN WITH THE SEED: the statements are not yours to turn. If you find one false, say at which input.
  Laid BY PROGRAM, IN A SANDBOX (cutbox-rows.mjs): the forced cells as the released guide's own fill.sh prints them over the translation c465578da1850cc6… (all of the seat's roots in one cut). By AI agents, Wed Nov 11 2026. No macro, syntax, notation, axiom, sorry.
-/
import Derived.Test.Qxb6003569aDoorChecked
import GoSem.PinnedTables
import GoSem.Claim
import GoSem.ClaimJoined
import GoSem.ClaimMapViews
import Derived.JoinedTies
import Derived.KernelRfl
namespace Go.Proofs.Qxb6003569aDoor
/- THE CELL 'sum', in the pinned program and in every row, IS THE sha256 OF THE DUMP (.gsa) THAT Qxb6003569aDoorProg.lean LOADS. Nothing in Lean hashes anything: it is a label: what it is worth is what the hold of that sum in a sandbox is worth. -/
noncomputable def Tryd.pinned : Pinned := { name := "qxb6003569adoor", sum := "c465578da1850cc663ecc435cc18bb87051a08e029d0882d99840f5dd88be09b", checked := Tryd.checked }
namespace Rows
def none {H : Type} : Left H := { results := [], args := [] }

/- WHAT THE LISTED PACKAGE-LEVEL VARIABLES READ AS WHEN THE CALL BEGINS. Each datum BY PROGRAM (the guide's laid-datum.mjs) off the statement by which the dump's own 'gosem.cut.vars' lays the variable. In a bare row this is a premise. The card (Qxb6003569aDoorCards.lean) ties it to the program's text. -/
def laid_unicode_utf8_acceptRanges {H : Type} : DataW H := .agg [.agg [.lit (.int .u8 128), .lit (.int .u8 191)], .agg [.lit (.int .u8 160), .lit (.int .u8 191)], .agg [.lit (.int .u8 128), .lit (.int .u8 159)], .agg [.lit (.int .u8 144), .lit (.int .u8 191)], .agg [.lit (.int .u8 128), .lit (.int .u8 143)], .agg [.lit (.int .u8 0), .lit (.int .u8 0)], .agg [.lit (.int .u8 0), .lit (.int .u8 0)], .agg [.lit (.int .u8 0), .lit (.int .u8 0)], .agg [.lit (.int .u8 0), .lit (.int .u8 0)], .agg [.lit (.int .u8 0), .lit (.int .u8 0)], .agg [.lit (.int .u8 0), .lit (.int .u8 0)], .agg [.lit (.int .u8 0), .lit (.int .u8 0)], .agg [.lit (.int .u8 0), .lit (.int .u8 0)], .agg [.lit (.int .u8 0), .lit (.int .u8 0)], .agg [.lit (.int .u8 0), .lit (.int .u8 0)], .agg [.lit (.int .u8 0), .lit (.int .u8 0)]]
/-- One of Go's own tables, pinned by name: the form's constant. -/
def laid_unicode_utf8_first : DataW Unit := Go.Pinned.utf8First

/-- 'zzlaws_internal_routetable_b2.FnPatternIdempotent': WHATEVER THE INPUT: true; the input reads as it did. -/
def fnPatternIdempotentSpec : ChangeSpec := { name := "fnPatternIdempotent", fn := fun _ => fun
  | [d1, d2] => { results := [.lit (.bool true)], args := [d1, d2] }
  | _ => none }
def fnPatternIdempotentRow : OpenClaim := { program := "qxb6003569adoor", sum := "c465578da1850cc663ecc435cc18bb87051a08e029d0882d99840f5dd88be09b", func := "example.com/halyard/zzlaws_internal_routetable_b2.FnPatternIdempotent", spec := "fnPatternIdempotent", inPlace := ["internal/bytealg.CountString", "internal/bytealg.IndexByteString", "internal/bytealg.IndexString", "internal/abi.NoEscape", "internal/bytealg.MakeNoZero"], named := ["unicode/utf8.first", "unicode/utf8.acceptRanges", "internal/bytealg.MaxLen"], apart := false, laid := [("unicode/utf8.acceptRanges", laid_unicode_utf8_acceptRanges), ("unicode/utf8.first", laid_unicode_utf8_first)] }
def FnPatternIdempotentSaid : Prop := fnPatternIdempotentRow.holds Tryd.pinned (OpenSpec.ofChange fnPatternIdempotentSpec)

/-- ITS FALSE NEIGHBOUR: 'it returns false'. Refute it at one input. -/
def fnPatternIdempotentWrong : ChangeSpec := { name := "fnPatternIdempotent", fn := fun _ => fun
  | [d1, d2] => { results := [.lit (.bool false)], args := [d1, d2] }
  | _ => none }
def FnPatternIdempotentWrongFalsely : Prop := fnPatternIdempotentRow.holds Tryd.pinned (OpenSpec.ofChange fnPatternIdempotentWrong)

/-- 'zzlaws_internal_routetable_b2.FnPatternRoundTrip': WHATEVER THE INPUT: true; the input reads as it did. -/
def fnPatternRoundTripSpec : ChangeSpec := { name := "fnPatternRoundTrip", fn := fun _ => fun
  | [d1, d2] => { results := [.lit (.bool true)], args := [d1, d2] }
  | _ => none }
def fnPatternRoundTripRow : OpenClaim := { program := "qxb6003569adoor", sum := "c465578da1850cc663ecc435cc18bb87051a08e029d0882d99840f5dd88be09b", func := "example.com/halyard/zzlaws_internal_routetable_b2.FnPatternRoundTrip", spec := "fnPatternRoundTrip", inPlace := ["internal/bytealg.CountString", "internal/bytealg.IndexByteString", "internal/bytealg.IndexString", "internal/abi.NoEscape", "internal/bytealg.MakeNoZero"], named := ["unicode/utf8.first", "unicode/utf8.acceptRanges", "internal/bytealg.MaxLen"], apart := false, laid := [("unicode/utf8.acceptRanges", laid_unicode_utf8_acceptRanges), ("unicode/utf8.first", laid_unicode_utf8_first)] }
def FnPatternRoundTripSaid : Prop := fnPatternRoundTripRow.holds Tryd.pinned (OpenSpec.ofChange fnPatternRoundTripSpec)

/-- ITS FALSE NEIGHBOUR: 'it returns false'. Refute it at one input. -/
def fnPatternRoundTripWrong : ChangeSpec := { name := "fnPatternRoundTrip", fn := fun _ => fun
  | [d1, d2] => { results := [.lit (.bool false)], args := [d1, d2] }
  | _ => none }
def FnPatternRoundTripWrongFalsely : Prop := fnPatternRoundTripRow.holds Tryd.pinned (OpenSpec.ofChange fnPatternRoundTripWrong)

/-- 'zzlaws_internal_routetable_b2.FnPatternLengthAndSlashes': WHATEVER THE INPUT: true; the input reads as it did. -/
def fnPatternLengthAndSlashesSpec : ChangeSpec := { name := "fnPatternLengthAndSlashes", fn := fun _ => fun
  | [d1, d2] => { results := [.lit (.bool true)], args := [d1, d2] }
  | _ => none }
def fnPatternLengthAndSlashesRow : OpenClaim := { program := "qxb6003569adoor", sum := "c465578da1850cc663ecc435cc18bb87051a08e029d0882d99840f5dd88be09b", func := "example.com/halyard/zzlaws_internal_routetable_b2.FnPatternLengthAndSlashes", spec := "fnPatternLengthAndSlashes", inPlace := ["internal/bytealg.CountString", "internal/bytealg.IndexByteString", "internal/bytealg.IndexString", "internal/abi.NoEscape", "internal/bytealg.MakeNoZero"], named := ["unicode/utf8.first", "unicode/utf8.acceptRanges", "internal/bytealg.MaxLen"], apart := false, laid := [("unicode/utf8.acceptRanges", laid_unicode_utf8_acceptRanges), ("unicode/utf8.first", laid_unicode_utf8_first)] }
def FnPatternLengthAndSlashesSaid : Prop := fnPatternLengthAndSlashesRow.holds Tryd.pinned (OpenSpec.ofChange fnPatternLengthAndSlashesSpec)

/-- ITS FALSE NEIGHBOUR: 'it returns false'. Refute it at one input. -/
def fnPatternLengthAndSlashesWrong : ChangeSpec := { name := "fnPatternLengthAndSlashes", fn := fun _ => fun
  | [d1, d2] => { results := [.lit (.bool false)], args := [d1, d2] }
  | _ => none }
def FnPatternLengthAndSlashesWrongFalsely : Prop := fnPatternLengthAndSlashesRow.holds Tryd.pinned (OpenSpec.ofChange fnPatternLengthAndSlashesWrong)

end Rows
end Go.Proofs.Qxb6003569aDoor
