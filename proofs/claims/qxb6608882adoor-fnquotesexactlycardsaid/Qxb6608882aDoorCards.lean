/-
  DERIVED. GIVEN WITH THE SEED: THE CARDS: each row of Qxb6608882aDoorRows.lean that lists a variable, with what it lists TIED to the program's text (the seventh form; the later family's looks); each row that meets fmt, with fmt's text TOLD by the authors' own Lean function (tested against real Go, not proved from fmt's source: count such statements apart). THE CARD IS WHAT COUNTS. Prove the row's statement (the work); the ties are given (Qxb6608882aDoorTie.lean); close each card by the builder's one call (the guide's Derived/Test/ToyasCard.lean, 'card_holds'). Laid BY PROGRAM, IN A SANDBOX (cutbox-door.mjs). By AI agents, Wed Nov 11 2026. No macro, syntax, notation, axiom, sorry.
-/
import Derived.Test.Qxb6608882aDoorRows
import GoSem.ClaimSeven
namespace Go.Proofs.Qxb6608882aDoor
namespace Rows

/-- THE TIED CARD OF 'zzlaws_rotate_b1.FnQuotesExactly'. -/
def fnQuotesExactlyCard : Claim7 := { stood := { row := fnQuotesExactlyRow, standIns := [], harness := (true, "f7b58f8a90a1ee2ca701c44ddfbd4522be8c6a614e0e8a4b5af49e3b515f44a5"), looks := true }, kinds := [], alts := [], laidByText := true, laidKinds := [.data, .data, .data, .sentinel, .sentinel], laidTests := true, laidLooks := .later }
def FnQuotesExactlyCardSaid : Prop := Claim7.holds Tryd.pinned (.plain (OpenSpec.ofChange fnQuotesExactlySpec)) fnQuotesExactlyCard

/-- THE TIED CARD OF 'zzlaws_rotate_b1.FnKeyOfAKey'. -/
def fnKeyOfAKeyCard : Claim7 := { stood := { row := fnKeyOfAKeyRow, standIns := [], harness := (true, "f7b58f8a90a1ee2ca701c44ddfbd4522be8c6a614e0e8a4b5af49e3b515f44a5"), looks := true }, kinds := [], alts := [], laidByText := true, laidKinds := [.data, .pinned], laidTests := true, laidLooks := .later }
def FnKeyOfAKeyCardSaid : Prop := Claim7.holds Tryd.pinned (.plain (OpenSpec.ofChange fnKeyOfAKeySpec)) fnKeyOfAKeyCard
end Rows
end Go.Proofs.Qxb6608882aDoor
