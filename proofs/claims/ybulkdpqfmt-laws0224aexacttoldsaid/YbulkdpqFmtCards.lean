/-
  DERIVED. GIVEN WITH THE SEED: THE CARDS: each row of YbulkdpqFmtRows.lean that lists a variable, with what it lists TIED to the program's text (the seventh form; the later family's looks); each row that meets fmt, with fmt's text TOLD by the authors' own Lean function (tested against real Go, not proved from fmt's source: count such statements apart). THE CARD IS WHAT COUNTS. Prove the row's statement (the work); the ties are given (YbulkdpqFmtTie.lean); close each card by the builder's one call (the guide's Derived/Test/ToyasCard.lean, 'card_holds'). Laid BY PROGRAM, IN A SANDBOX (cutbox-door.mjs). By AI agents, Wed Nov 11 2026. No macro, syntax, notation, axiom, sorry.
-/
import Derived.Test.YbulkdpqFmtRows
import GoSem.ClaimSeven
namespace Go.Proofs.YbulkdpqFmt
namespace Rows

/-- THE TOLD CARD OF 'exchange.LawS0224AExact'. -/
def lawS0224AExactCard : Claim7 := { stood := { row := lawS0224AExactRow, standIns := [], harness := (true, "cbf432510ba4094fe363c212ba0ae07db4b4d8641c3ff3474ae83be02e85af80"), looks := false }, told := true, goes := false }
def LawS0224AExactToldSaid : Prop := Claim7.holds Ybaf.pinned (.plain (OpenSpec.ofChange lawS0224AExactSpec)) lawS0224AExactCard
/-- ITS FALSE NEIGHBOUR. Refute it at one input. -/
def LawS0224AExactToldWrongFalsely : Prop := Claim7.holds Ybaf.pinned (.plain (OpenSpec.ofChange lawS0224AExactWrong)) lawS0224AExactCard

/-- THE TOLD CARD OF 'exchange.LawS0224AShape'. -/
def lawS0224AShapeCard : Claim7 := { stood := { row := lawS0224AShapeRow, standIns := [], harness := (true, "cbf432510ba4094fe363c212ba0ae07db4b4d8641c3ff3474ae83be02e85af80"), looks := false }, told := true, goes := false }
def LawS0224AShapeToldSaid : Prop := Claim7.holds Ybaf.pinned (.plain (OpenSpec.ofChange lawS0224AShapeSpec)) lawS0224AShapeCard
/-- ITS FALSE NEIGHBOUR. Refute it at one input. -/
def LawS0224AShapeToldWrongFalsely : Prop := Claim7.holds Ybaf.pinned (.plain (OpenSpec.ofChange lawS0224AShapeWrong)) lawS0224AShapeCard
end Rows
end Go.Proofs.YbulkdpqFmt
