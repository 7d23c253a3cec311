/-
  DERIVED. GIVEN WITH THE SEED: THE CARDS: each row of Qxb6003569aDoorRows.lean that lists a variable, with what it lists TIED to the program's text (the seventh form; the later family's looks); each row that meets fmt, with fmt's text TOLD by the authors' own Lean function (tested against real Go, not proved from fmt's source: count such statements apart). THE CARD IS WHAT COUNTS. Prove the row's statement (the work); the ties are given (Qxb6003569aDoorTie.lean); close each card by the builder's one call (the guide's Derived/Test/ToyasCard.lean, 'card_holds'). Laid BY PROGRAM, IN A SANDBOX (cutbox-door.mjs). By AI agents, Wed Nov 11 2026. No macro, syntax, notation, axiom, sorry.
-/
import Derived.Test.Qxb6003569aDoorRows
import GoSem.ClaimSeven
namespace Go.Proofs.Qxb6003569aDoor
namespace Rows

/-- THE TIED CARD OF 'zzlaws_internal_routetable_b2.FnPatternIdempotent'. -/
def fnPatternIdempotentCard : Claim7 := { stood := { row := fnPatternIdempotentRow, standIns := [], harness := (true, "62d01a58ea2d49552e082fe5fa8619f299979eaa25b089d53aec5d70e2b35b02"), looks := false }, kinds := [], alts := [], laidByText := true, laidKinds := [.data, .pinned], laidTests := true, laidLooks := .later }
def FnPatternIdempotentCardSaid : Prop := Claim7.holds Tryd.pinned (.plain (OpenSpec.ofChange fnPatternIdempotentSpec)) fnPatternIdempotentCard

/-- THE TIED CARD OF 'zzlaws_internal_routetable_b2.FnPatternRoundTrip'. -/
def fnPatternRoundTripCard : Claim7 := { stood := { row := fnPatternRoundTripRow, standIns := [], harness := (true, "62d01a58ea2d49552e082fe5fa8619f299979eaa25b089d53aec5d70e2b35b02"), looks := false }, kinds := [], alts := [], laidByText := true, laidKinds := [.data, .pinned], laidTests := true, laidLooks := .later }
def FnPatternRoundTripCardSaid : Prop := Claim7.holds Tryd.pinned (.plain (OpenSpec.ofChange fnPatternRoundTripSpec)) fnPatternRoundTripCard

/-- THE TIED CARD OF 'zzlaws_internal_routetable_b2.FnPatternLengthAndSlashes'. -/
def fnPatternLengthAndSlashesCard : Claim7 := { stood := { row := fnPatternLengthAndSlashesRow, standIns := [], harness := (true, "62d01a58ea2d49552e082fe5fa8619f299979eaa25b089d53aec5d70e2b35b02"), looks := false }, kinds := [], alts := [], laidByText := true, laidKinds := [.data, .pinned], laidTests := true, laidLooks := .later }
def FnPatternLengthAndSlashesCardSaid : Prop := Claim7.holds Tryd.pinned (.plain (OpenSpec.ofChange fnPatternLengthAndSlashesSpec)) fnPatternLengthAndSlashesCard
end Rows
end Go.Proofs.Qxb6003569aDoor
