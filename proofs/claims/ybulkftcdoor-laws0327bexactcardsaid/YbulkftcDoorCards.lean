/-
  DERIVED. GIVEN WITH THE SEED: THE CARDS: each row of YbulkftcDoorRows.lean that lists a variable, with what it lists TIED to the program's text (the seventh form; the later family's looks); each row that meets fmt, with fmt's text TOLD by the authors' own Lean function (tested against real Go, not proved from fmt's source: count such statements apart). THE CARD IS WHAT COUNTS. Prove the row's statement (the work); the ties are given (YbulkftcDoorTie.lean); close each card by the builder's one call (the guide's Derived/Test/ToyasCard.lean, 'card_holds'). Laid BY PROGRAM, IN A SANDBOX (cutbox-door.mjs). By AI agents, Wed Nov 11 2026. No macro, syntax, notation, axiom, sorry.
-/
import Derived.Test.YbulkftcDoorRows
import GoSem.ClaimSeven
namespace Go.Proofs.YbulkftcDoor
namespace Rows

/-- THE TIED CARD OF 'config.LawS0327BExact'. -/
def lawS0327BExactCard : Claim7 := { stood := { row := lawS0327BExactRow, standIns := [], harness := (true, "a35e2060fc260a77c542742a9cedf77178c89dc61b4d0b45084f7a66eeeee26b"), looks := false }, kinds := [], alts := [], laidByText := true, laidKinds := [.data, .data, .data], laidTests := true, laidLooks := .later }
def LawS0327BExactCardSaid : Prop := Claim7.holds Ybad.pinned (.plain (OpenSpec.ofChange lawS0327BExactSpec)) lawS0327BExactCard

/-- THE TIED CARD OF 'config.LawS0327BAgree'. -/
def lawS0327BAgreeCard : Claim7 := { stood := { row := lawS0327BAgreeRow, standIns := [], harness := (true, "a35e2060fc260a77c542742a9cedf77178c89dc61b4d0b45084f7a66eeeee26b"), looks := false }, kinds := [], alts := [], laidByText := true, laidKinds := [.data, .data, .data], laidTests := true, laidLooks := .later }
def LawS0327BAgreeCardSaid : Prop := Claim7.holds Ybad.pinned (.plain (OpenSpec.ofChange lawS0327BAgreeSpec)) lawS0327BAgreeCard
end Rows
end Go.Proofs.YbulkftcDoor
