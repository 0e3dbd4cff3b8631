/-
  DERIVED. GIVEN WITH THE SEED: THE CARDS: each row of Qxb6619419aDoorRows.lean that lists a variable, with what it lists TIED to the program's text (the seventh form; the later family's looks); each row that meets fmt, with fmt's text TOLD by the authors' own Lean function (tested against real Go, not proved from fmt's source: count such statements apart). THE CARD IS WHAT COUNTS. Prove the row's statement (the work); the ties are given (Qxb6619419aDoorTie.lean); close each card by the builder's one call (the guide's Derived/Test/ToyasCard.lean, 'card_holds'). Laid BY PROGRAM, IN A SANDBOX (cutbox-door.mjs). By AI agents, Wed Nov 11 2026. No macro, syntax, notation, axiom, sorry.
-/
import Derived.Test.Qxb6619419aDoorRows
import GoSem.ClaimSeven
namespace Go.Proofs.Qxb6619419aDoor
namespace Rows

/-- THE TIED CARD OF 'zzlaws_money_b1.FnStringReadsBackAndNegates'. -/
def fnStringReadsBackAndNegatesCard : Claim7 := { stood := { row := fnStringReadsBackAndNegatesRow, standIns := [], harness := (true, "c530d675c2df126ba387eb4273c8019001a8b421a843e0749efd671d11fe71c7"), looks := false }, kinds := [], alts := [], laidByText := true, laidKinds := [.data, .data, .data], laidTests := true, laidLooks := .later }
def FnStringReadsBackAndNegatesCardSaid : Prop := Claim7.holds Tryd.pinned (.plain (OpenSpec.ofChange fnStringReadsBackAndNegatesSpec)) fnStringReadsBackAndNegatesCard

/-- THE TIED CARD OF 'zzlaws_money_b1.FnStringOrderMatchesAmountOrder'. -/
def fnStringOrderMatchesAmountOrderCard : Claim7 := { stood := { row := fnStringOrderMatchesAmountOrderRow, standIns := [], harness := (true, "c530d675c2df126ba387eb4273c8019001a8b421a843e0749efd671d11fe71c7"), looks := false }, kinds := [], alts := [], laidByText := true, laidKinds := [.data, .data, .data], laidTests := true, laidLooks := .later }
def FnStringOrderMatchesAmountOrderCardSaid : Prop := Claim7.holds Tryd.pinned (.plain (OpenSpec.ofChange fnStringOrderMatchesAmountOrderSpec)) fnStringOrderMatchesAmountOrderCard

/-- THE TIED CARD OF 'zzlaws_money_b1.FnStringAddsOneMajorUnit'. -/
def fnStringAddsOneMajorUnitCard : Claim7 := { stood := { row := fnStringAddsOneMajorUnitRow, standIns := [], harness := (true, "c530d675c2df126ba387eb4273c8019001a8b421a843e0749efd671d11fe71c7"), looks := false }, kinds := [], alts := [], laidByText := true, laidKinds := [.data, .data, .data], laidTests := true, laidLooks := .later }
def FnStringAddsOneMajorUnitCardSaid : Prop := Claim7.holds Tryd.pinned (.plain (OpenSpec.ofChange fnStringAddsOneMajorUnitSpec)) fnStringAddsOneMajorUnitCard
end Rows
end Go.Proofs.Qxb6619419aDoor
