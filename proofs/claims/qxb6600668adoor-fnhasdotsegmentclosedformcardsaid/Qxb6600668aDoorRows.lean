/-
  NARROWER THAN 'FOR EVERY INPUT', by the rows' own cells (each row's printed sentence says how): FnHasDotSegmentClosedForm: laid · FnHasDotSegmentJoin: laid.
  DERIVED. THE GIVEN ROWS OF THIS SEAT. 2 by the template 'for every input the law returns true; each argument reads behind the call as it read before'; 0 by the template 'total and deterministic' (their statements: Qxb6600668aDoorTotals.lean).
  GIVEN WITH THE SEED: the statements are not yours to turn. If you find one false, say at which input.
  Laid BY PROGRAM, IN A SANDBOX (cutbox-rows.mjs): the forced cells as the released guide's own fill.sh prints them over the translation 99410dff55d994a2… (all of the seat's roots in one cut). By AI agents, Wed Nov 11 2026. No macro, syntax, notation, axiom, sorry.
-/
import Derived.Test.Qxb6600668aDoorChecked
import GoSem.PinnedTables
import GoSem.Claim
import GoSem.ClaimJoined
import GoSem.ClaimMapViews
import Derived.JoinedTies
import Derived.KernelRfl
namespace Go.Proofs.Qxb6600668aDoor
/- THE CELL 'sum', in the pinned program and in every row, IS THE sha256 OF THE DUMP (.gsa) THAT Qxb6600668aDoorProg.lean LOADS. Nothing in Lean hashes anything: it is a label: what it is worth is what the hold of that sum in a sandbox is worth. -/
noncomputable def Tryd.pinned : Pinned := { name := "qxb6600668adoor", sum := "99410dff55d994a2542d297101a4a1ae805c74ca145ce4324f9715a3c75503c7", checked := Tryd.checked }
namespace Rows
def none {H : Type} : Left H := { results := [], args := [] }

/- WHAT THE LISTED PACKAGE-LEVEL VARIABLES READ AS WHEN THE CALL BEGINS. Each datum BY PROGRAM (the guide's laid-datum.mjs) off the statement by which the dump's own 'gosem.cut.vars' lays the variable. In a bare row this is a premise. The card (Qxb6600668aDoorCards.lean) ties it to the program's text. -/
def laid_unicode_utf8_acceptRanges {H : Type} : DataW H := .agg [.agg [.lit (.int .u8 128), .lit (.int .u8 191)], .agg [.lit (.int .u8 160), .lit (.int .u8 191)], .agg [.lit (.int .u8 128), .lit (.int .u8 159)], .agg [.lit (.int .u8 144), .lit (.int .u8 191)], .agg [.lit (.int .u8 128), .lit (.int .u8 143)], .agg [.lit (.int .u8 0), .lit (.int .u8 0)], .agg [.lit (.int .u8 0), .lit (.int .u8 0)], .agg [.lit (.int .u8 0), .lit (.int .u8 0)], .agg [.lit (.int .u8 0), .lit (.int .u8 0)], .agg [.lit (.int .u8 0), .lit (.int .u8 0)], .agg [.lit (.int .u8 0), .lit (.int .u8 0)], .agg [.lit (.int .u8 0), .lit (.int .u8 0)], .agg [.lit (.int .u8 0), .lit (.int .u8 0)], .agg [.lit (.int .u8 0), .lit (.int .u8 0)], .agg [.lit (.int .u8 0), .lit (.int .u8 0)], .agg [.lit (.int .u8 0), .lit (.int .u8 0)]]
/-- One of Go's own tables, pinned by name: the form's constant. -/
def laid_unicode_utf8_first : DataW Unit := Go.Pinned.utf8First

/-- 'zzlaws_internal_proxy_b1.FnHasDotSegmentClosedForm': WHATEVER THE INPUT: true; the input reads as it did. -/
def fnHasDotSegmentClosedFormSpec : ChangeSpec := { name := "fnHasDotSegmentClosedForm", fn := fun _ => fun
  | [d] => { results := [.lit (.bool true)], args := [d] }
  | _ => none }
def fnHasDotSegmentClosedFormRow : OpenClaim := { program := "qxb6600668adoor", sum := "99410dff55d994a2542d297101a4a1ae805c74ca145ce4324f9715a3c75503c7", func := "example.com/gatewright/gatewright/zzlaws_internal_proxy_b1.FnHasDotSegmentClosedForm", spec := "fnHasDotSegmentClosedForm", inPlace := ["internal/bytealg.IndexByteString", "internal/bytealg.IndexString"], unfollowed := true, recurses := true, named := ["unicode/utf8.first", "unicode/utf8.acceptRanges", "internal/bytealg.MaxLen"], apart := false, laid := [("unicode/utf8.acceptRanges", laid_unicode_utf8_acceptRanges), ("unicode/utf8.first", laid_unicode_utf8_first)] }
def FnHasDotSegmentClosedFormSaid : Prop := fnHasDotSegmentClosedFormRow.holds Tryd.pinned (OpenSpec.ofChange fnHasDotSegmentClosedFormSpec)

/-- ITS FALSE NEIGHBOUR: 'it returns false'. Refute it at one input. -/
def fnHasDotSegmentClosedFormWrong : ChangeSpec := { name := "fnHasDotSegmentClosedForm", fn := fun _ => fun
  | [d] => { results := [.lit (.bool false)], args := [d] }
  | _ => none }
def FnHasDotSegmentClosedFormWrongFalsely : Prop := fnHasDotSegmentClosedFormRow.holds Tryd.pinned (OpenSpec.ofChange fnHasDotSegmentClosedFormWrong)

/-- 'zzlaws_internal_proxy_b1.FnHasDotSegmentJoin': WHATEVER THE INPUT: true; the input reads as it did. -/
def fnHasDotSegmentJoinSpec : ChangeSpec := { name := "fnHasDotSegmentJoin", fn := fun _ => fun
  | [d1, d2] => { results := [.lit (.bool true)], args := [d1, d2] }
  | _ => none }
def fnHasDotSegmentJoinRow : OpenClaim := { program := "qxb6600668adoor", sum := "99410dff55d994a2542d297101a4a1ae805c74ca145ce4324f9715a3c75503c7", func := "example.com/gatewright/gatewright/zzlaws_internal_proxy_b1.FnHasDotSegmentJoin", spec := "fnHasDotSegmentJoin", inPlace := ["internal/bytealg.IndexByteString", "internal/bytealg.IndexString"], unfollowed := true, recurses := true, named := ["unicode/utf8.first", "unicode/utf8.acceptRanges", "internal/bytealg.MaxLen"], apart := false, laid := [("unicode/utf8.acceptRanges", laid_unicode_utf8_acceptRanges), ("unicode/utf8.first", laid_unicode_utf8_first)] }
def FnHasDotSegmentJoinSaid : Prop := fnHasDotSegmentJoinRow.holds Tryd.pinned (OpenSpec.ofChange fnHasDotSegmentJoinSpec)

/-- ITS FALSE NEIGHBOUR: 'it returns false'. Refute it at one input. -/
def fnHasDotSegmentJoinWrong : ChangeSpec := { name := "fnHasDotSegmentJoin", fn := fun _ => fun
  | [d1, d2] => { results := [.lit (.bool false)], args := [d1, d2] }
  | _ => none }
def FnHasDotSegmentJoinWrongFalsely : Prop := fnHasDotSegmentJoinRow.holds Tryd.pinned (OpenSpec.ofChange fnHasDotSegmentJoinWrong)

end Rows
end Go.Proofs.Qxb6600668aDoor
