/-
  DERIVED. GIVEN WITH THE SEED: THE CARDS: each row of YbulkdsiDoorRows.lean that lists a variable, with what it lists TIED to the program's text (the seventh form; the later family's looks); each row that meets fmt, with fmt's text TOLD by the authors' own Lean function (tested against real Go, not proved from fmt's source: count such statements apart). THE CARD IS WHAT COUNTS. Prove the row's statement (the work); the ties are given (YbulkdsiDoorTie.lean); close each card by the builder's one call (the guide's Derived/Test/ToyasCard.lean, 'card_holds'). Laid BY PROGRAM, IN A SANDBOX (cutbox-door.mjs). By AI agents, Wed Nov 11 2026. No macro, syntax, notation, axiom, sorry.
-/
import Derived.Test.YbulkdsiDoorRows
import GoSem.ClaimSeven
namespace Go.Proofs.YbulkdsiDoor
namespace Rows

/-- THE TIED CARD OF 'http1.LawS0229BPart'. -/
def lawS0229BPartCard : Claim7 := { stood := { row := lawS0229BPartRow, standIns := [], harness := (true, "bf69229b0db55f7ea7bdcea722c2f580b2678890c7303a551a48d86191f2b269"), looks := false }, kinds := [], alts := [], laidByText := true, laidKinds := [.sentinel, .sentinel], laidTests := true, laidLooks := .later }
def LawS0229BPartCardSaid : Prop := Claim7.holds Ybad.pinned (.plain (OpenSpec.ofChange lawS0229BPartSpec)) lawS0229BPartCard
end Rows
end Go.Proofs.YbulkdsiDoor
