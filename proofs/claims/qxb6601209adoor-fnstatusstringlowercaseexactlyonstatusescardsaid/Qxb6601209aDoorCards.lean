/-
  DERIVED. GIVEN WITH THE SEED: THE CARDS: each row of Qxb6601209aDoorRows.lean that lists a variable, with what it lists TIED to the program's text (the seventh form; the later family's looks); each row that meets fmt, with fmt's text TOLD by the authors' own Lean function (tested against real Go, not proved from fmt's source: count such statements apart). THE CARD IS WHAT COUNTS. Prove the row's statement (the work); the ties are given (Qxb6601209aDoorTie.lean); close each card by the builder's one call (the guide's Derived/Test/ToyasCard.lean, 'card_holds'). Laid BY PROGRAM, IN A SANDBOX (cutbox-door.mjs). By AI agents, Wed Nov 11 2026. No macro, syntax, notation, axiom, sorry.
-/
import Derived.Test.Qxb6601209aDoorRows
import GoSem.ClaimSeven
namespace Go.Proofs.Qxb6601209aDoor
namespace Rows

/-- THE TIED CARD OF 'zzlaws_root_b1.FnStatusStringInjective'. -/
def fnStatusStringInjectiveCard : Claim7 := { stood := { row := fnStatusStringInjectiveRow, standIns := [], harness := (true, "ac8aae351603dbf5317e0c61b57d85b6fafa2e6f75595427014e6edca852ddaf"), looks := false }, kinds := [], alts := [], laidByText := true, laidKinds := [.data, .data, .data], laidTests := true, laidLooks := .later }
def FnStatusStringInjectiveCardSaid : Prop := Claim7.holds Tryd.pinned (.plain (OpenSpec.ofChange fnStatusStringInjectiveSpec)) fnStatusStringInjectiveCard

/-- THE TIED CARD OF 'zzlaws_root_b1.FnStatusStringLowerCaseExactlyOnStatuses'. -/
def fnStatusStringLowerCaseExactlyOnStatusesCard : Claim7 := { stood := { row := fnStatusStringLowerCaseExactlyOnStatusesRow, standIns := [], harness := (true, "ac8aae351603dbf5317e0c61b57d85b6fafa2e6f75595427014e6edca852ddaf"), looks := false }, kinds := [], alts := [], laidByText := true, laidKinds := [.data, .data, .data], laidTests := true, laidLooks := .later }
def FnStatusStringLowerCaseExactlyOnStatusesCardSaid : Prop := Claim7.holds Tryd.pinned (.plain (OpenSpec.ofChange fnStatusStringLowerCaseExactlyOnStatusesSpec)) fnStatusStringLowerCaseExactlyOnStatusesCard
end Rows
end Go.Proofs.Qxb6601209aDoor
