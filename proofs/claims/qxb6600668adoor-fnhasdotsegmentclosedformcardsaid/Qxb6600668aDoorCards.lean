/-
  DERIVED. GIVEN WITH THE SEED: THE CARDS: each row of Qxb6600668aDoorRows.lean that lists a variable, with what it lists TIED to the program's text (the seventh form; the later family's looks); each row that meets fmt, with fmt's text TOLD by the authors' own Lean function (tested against real Go, not proved from fmt's source: count such statements apart). THE CARD IS WHAT COUNTS. Prove the row's statement (the work); the ties are given (Qxb6600668aDoorTie.lean); close each card by the builder's one call (the guide's Derived/Test/ToyasCard.lean, 'card_holds'). Laid BY PROGRAM, IN A SANDBOX (cutbox-door.mjs). By AI agents, Wed Nov 11 2026. No macro, syntax, notation, axiom, sorry.
-/
import Derived.Test.Qxb6600668aDoorRows
import GoSem.ClaimSeven
namespace Go.Proofs.Qxb6600668aDoor
namespace Rows

/-- THE TIED CARD OF 'zzlaws_internal_proxy_b1.FnHasDotSegmentClosedForm'. -/
def fnHasDotSegmentClosedFormCard : Claim7 := { stood := { row := fnHasDotSegmentClosedFormRow, standIns := [], harness := (true, "111a323700783918284e582b5a4c927d37de8ff6b69b4c9ec914b463a6e8a6bc"), looks := false }, kinds := [], alts := [], laidByText := true, laidKinds := [.data, .pinned], laidTests := true, laidLooks := .later }
def FnHasDotSegmentClosedFormCardSaid : Prop := Claim7.holds Tryd.pinned (.plain (OpenSpec.ofChange fnHasDotSegmentClosedFormSpec)) fnHasDotSegmentClosedFormCard

/-- THE TIED CARD OF 'zzlaws_internal_proxy_b1.FnHasDotSegmentJoin'. -/
def fnHasDotSegmentJoinCard : Claim7 := { stood := { row := fnHasDotSegmentJoinRow, standIns := [], harness := (true, "111a323700783918284e582b5a4c927d37de8ff6b69b4c9ec914b463a6e8a6bc"), looks := false }, kinds := [], alts := [], laidByText := true, laidKinds := [.data, .pinned], laidTests := true, laidLooks := .later }
def FnHasDotSegmentJoinCardSaid : Prop := Claim7.holds Tryd.pinned (.plain (OpenSpec.ofChange fnHasDotSegmentJoinSpec)) fnHasDotSegmentJoinCard
end Rows
end Go.Proofs.Qxb6600668aDoor
