/-
  DERIVED. GIVEN WITH THE SEED: THE CARDS: each row of Qxb6608830aDoorRows.lean that lists a variable, with what it lists TIED to the program's text (the seventh form; the later family's looks); each row that meets fmt, with fmt's text TOLD by the authors' own Lean function (tested against real Go, not proved from fmt's source: count such statements apart). THE CARD IS WHAT COUNTS. Prove the row's statement (the work); the ties are given (Qxb6608830aDoorTie.lean); close each card by the builder's one call (the guide's Derived/Test/ToyasCard.lean, 'card_holds'). Laid BY PROGRAM, IN A SANDBOX (cutbox-door.mjs). By AI agents, Wed Nov 11 2026. No macro, syntax, notation, axiom, sorry.
-/
import Derived.Test.Qxb6608830aDoorRows
import GoSem.ClaimSeven
namespace Go.Proofs.Qxb6608830aDoor
namespace Rows

/-- THE TIED CARD OF 'zzlaws_internal_config_b1.FnDemotedLinesCut'. -/
def fnDemotedLinesCutCard : Claim7 := { stood := { row := fnDemotedLinesCutRow, standIns := [], harness := (true, "23d3e4a39177026999d1df05c707837fd520f1067e97bb8f3657fb87e15b5493"), looks := false }, kinds := [], alts := [], laidByText := true, laidKinds := [.data, .data, .data], laidTests := true, laidLooks := .later }
def FnDemotedLinesCutCardSaid : Prop := Claim7.holds Tryd.pinned (.plain (OpenSpec.ofChange fnDemotedLinesCutSpec)) fnDemotedLinesCutCard

/-- THE TIED CARD OF 'zzlaws_internal_config_b1.FnPrioritiesLinesCut'. -/
def fnPrioritiesLinesCutCard : Claim7 := { stood := { row := fnPrioritiesLinesCutRow, standIns := [], harness := (true, "23d3e4a39177026999d1df05c707837fd520f1067e97bb8f3657fb87e15b5493"), looks := false }, kinds := [], alts := [], laidByText := true, laidKinds := [.data, .data, .data], laidTests := true, laidLooks := .later }
def FnPrioritiesLinesCutCardSaid : Prop := Claim7.holds Tryd.pinned (.plain (OpenSpec.ofChange fnPrioritiesLinesCutSpec)) fnPrioritiesLinesCutCard

/-- THE TIED CARD OF 'zzlaws_internal_config_b1.FnPrioritiesExtendDemoted'. -/
def fnPrioritiesExtendDemotedCard : Claim7 := { stood := { row := fnPrioritiesExtendDemotedRow, standIns := [], harness := (true, "23d3e4a39177026999d1df05c707837fd520f1067e97bb8f3657fb87e15b5493"), looks := false }, kinds := [], alts := [], laidByText := true, laidKinds := [.data, .data, .data], laidTests := true, laidLooks := .later }
def FnPrioritiesExtendDemotedCardSaid : Prop := Claim7.holds Tryd.pinned (.plain (OpenSpec.ofChange fnPrioritiesExtendDemotedSpec)) fnPrioritiesExtendDemotedCard
end Rows
end Go.Proofs.Qxb6608830aDoor
