/-
  DERIVED. GIVEN WITH THE SEED: THE CARDS: each row of Qxb6618070aDoorRows.lean that lists a variable, with what it lists TIED to the program's text (the seventh form; the later family's looks); each row that meets fmt, with fmt's text TOLD by the authors' own Lean function (tested against real Go, not proved from fmt's source: count such statements apart). THE CARD IS WHAT COUNTS. Prove the row's statement (the work); the ties are given (Qxb6618070aDoorTie.lean); close each card by the builder's one call (the guide's Derived/Test/ToyasCard.lean, 'card_holds'). Laid BY PROGRAM, IN A SANDBOX (cutbox-door.mjs). By AI agents, Wed Nov 11 2026. No macro, syntax, notation, axiom, sorry.
-/
import Derived.Test.Qxb6618070aDoorRows
import GoSem.ClaimSeven
namespace Go.Proofs.Qxb6618070aDoor
namespace Rows

/-- THE TIED CARD OF 'zzlaws_wire_b1.FnCreateModeStringNamesAndNumbers'. -/
def fnCreateModeStringNamesAndNumbersCard : Claim7 := { stood := { row := fnCreateModeStringNamesAndNumbersRow, standIns := [], harness := (true, "185681a74e6bb051e6055f508412cbf292e17104c14862abcb47a039be8f9a42"), looks := false }, kinds := [], alts := [], laidByText := true, laidKinds := [.data, .data, .data], laidTests := true, laidLooks := .later }
def FnCreateModeStringNamesAndNumbersCardSaid : Prop := Claim7.holds Tryd.pinned (.plain (OpenSpec.ofChange fnCreateModeStringNamesAndNumbersSpec)) fnCreateModeStringNamesAndNumbersCard

/-- THE TIED CARD OF 'zzlaws_wire_b1.FnEventTypeStringNamesAndNumbers'. -/
def fnEventTypeStringNamesAndNumbersCard : Claim7 := { stood := { row := fnEventTypeStringNamesAndNumbersRow, standIns := [], harness := (true, "185681a74e6bb051e6055f508412cbf292e17104c14862abcb47a039be8f9a42"), looks := false }, kinds := [], alts := [], laidByText := true, laidKinds := [.data, .data, .data], laidTests := true, laidLooks := .later }
def FnEventTypeStringNamesAndNumbersCardSaid : Prop := Claim7.holds Tryd.pinned (.plain (OpenSpec.ofChange fnEventTypeStringNamesAndNumbersSpec)) fnEventTypeStringNamesAndNumbersCard
end Rows
end Go.Proofs.Qxb6618070aDoor
