/-
  DERIVED. GIVEN WITH THE SEED: THE CARDS: each row of Qxb6604528aDoorRows.lean that lists a variable, with what it lists TIED to the program's text (the seventh form; the later family's looks); each row that meets fmt, with fmt's text TOLD by the authors' own Lean function (tested against real Go, not proved from fmt's source: count such statements apart). THE CARD IS WHAT COUNTS. Prove the row's statement (the work); the ties are given (Qxb6604528aDoorTie.lean); close each card by the builder's one call (the guide's Derived/Test/ToyasCard.lean, 'card_holds'). Laid BY PROGRAM, IN A SANDBOX (cutbox-door.mjs). By AI agents, Wed Nov 11 2026. No macro, syntax, notation, axiom, sorry.
-/
import Derived.Test.Qxb6604528aDoorRows
import GoSem.ClaimSeven
namespace Go.Proofs.Qxb6604528aDoor
namespace Rows

/-- THE TIED CARD OF 'zzlaws_value_b1.FnComparePartsMatchesModel'. -/
def fnComparePartsMatchesModelCard : Claim7 := { stood := { row := fnComparePartsMatchesModelRow, standIns := [], harness := (true, "04703d0bc061dc1e0ee30de187bfd028d2ff74c964454449449b4c835f5c4da0"), looks := false }, kinds := [], alts := [], laidByText := true, laidKinds := [.data, .pinned], laidTests := true, laidLooks := .later }
def FnComparePartsMatchesModelCardSaid : Prop := Claim7.holds Tryd.pinned (.plain (OpenSpec.ofChange fnComparePartsMatchesModelSpec)) fnComparePartsMatchesModelCard

/-- THE TIED CARD OF 'zzlaws_value_b1.FnComparePartsExtendingOrders'. -/
def fnComparePartsExtendingOrdersCard : Claim7 := { stood := { row := fnComparePartsExtendingOrdersRow, standIns := [], harness := (true, "04703d0bc061dc1e0ee30de187bfd028d2ff74c964454449449b4c835f5c4da0"), looks := false }, kinds := [], alts := [], laidByText := true, laidKinds := [.data, .pinned], laidTests := true, laidLooks := .later }
def FnComparePartsExtendingOrdersCardSaid : Prop := Claim7.holds Tryd.pinned (.plain (OpenSpec.ofChange fnComparePartsExtendingOrdersSpec)) fnComparePartsExtendingOrdersCard

/-- THE TIED CARD OF 'zzlaws_value_b1.FnIntegerValueTextIsDecimal'. -/
def fnIntegerValueTextIsDecimalCard : Claim7 := { stood := { row := fnIntegerValueTextIsDecimalRow, standIns := [], harness := (true, "04703d0bc061dc1e0ee30de187bfd028d2ff74c964454449449b4c835f5c4da0"), looks := false }, kinds := [], alts := [], laidByText := true, laidKinds := [.data, .data, .data, .data, .pinned, .pinned], laidTests := true, laidLooks := .later }
def FnIntegerValueTextIsDecimalCardSaid : Prop := Claim7.holds Tryd.pinned (.plain (OpenSpec.ofChange fnIntegerValueTextIsDecimalSpec)) fnIntegerValueTextIsDecimalCard
end Rows
end Go.Proofs.Qxb6604528aDoor
