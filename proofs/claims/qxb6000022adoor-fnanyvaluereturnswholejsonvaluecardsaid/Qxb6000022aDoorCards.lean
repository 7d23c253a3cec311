/-
  DERIVED. GIVEN WITH THE SEED: THE CARDS: each row of Qxb6000022aDoorRows.lean that lists a variable, with what it lists TIED to the program's text (the seventh form; the later family's looks); each row that meets fmt, with fmt's text TOLD by the authors' own Lean function (tested against real Go, not proved from fmt's source: count such statements apart). THE CARD IS WHAT COUNTS. Prove the row's statement (the work); the ties are given (Qxb6000022aDoorTie.lean); close each card by the builder's one call (the guide's Derived/Test/ToyasCard.lean, 'card_holds'). Laid BY PROGRAM, IN A SANDBOX (cutbox-door.mjs). By AI agents, Wed Nov 11 2026. No macro, syntax, notation, axiom, sorry.
-/
import Derived.Test.Qxb6000022aDoorRows
import GoSem.ClaimSeven
namespace Go.Proofs.Qxb6000022aDoor
namespace Rows

/-- THE TIED CARD OF 'zzlaws_internal_jsonobject_b1.FnAnyValueReturnsWholeJSONValue'. -/
def fnAnyValueReturnsWholeJSONValueCard : Claim7 := { stood := { row := fnAnyValueReturnsWholeJSONValueRow, standIns := [], harness := (true, "47d73e184a6a0f854f3a6bc9856a602b1bd33c7e5e2b1ff5fdfa64f3dcda33c9"), looks := false }, kinds := [], alts := [], laidByText := true, laidKinds := [.data, .pinned], laidTests := true, laidLooks := .later }
def FnAnyValueReturnsWholeJSONValueCardSaid : Prop := Claim7.holds Tryd.pinned (.plain (OpenSpec.ofChange fnAnyValueReturnsWholeJSONValueSpec)) fnAnyValueReturnsWholeJSONValueCard

/-- THE TIED CARD OF 'zzlaws_internal_jsonobject_b1.FnPlainAndAnyValueAgreeBeforeDelimiter'. -/
def fnPlainAndAnyValueAgreeBeforeDelimiterCard : Claim7 := { stood := { row := fnPlainAndAnyValueAgreeBeforeDelimiterRow, standIns := [], harness := (true, "47d73e184a6a0f854f3a6bc9856a602b1bd33c7e5e2b1ff5fdfa64f3dcda33c9"), looks := false }, kinds := [], alts := [], laidByText := true, laidKinds := [.data, .pinned], laidTests := true, laidLooks := .later }
def FnPlainAndAnyValueAgreeBeforeDelimiterCardSaid : Prop := Claim7.holds Tryd.pinned (.plain (OpenSpec.ofChange fnPlainAndAnyValueAgreeBeforeDelimiterSpec)) fnPlainAndAnyValueAgreeBeforeDelimiterCard
end Rows
end Go.Proofs.Qxb6000022aDoor
