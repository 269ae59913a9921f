/-
  DERIVED. GIVEN WITH THE SEED: THE PROGRAM's TIES (one call each: nine closed facts by the kernel) AND EACH ROW's TIE, after the 31st guide's Derived/Test/Toyas{Tie, Card}.lean. No idea stands in it: it is a product of the set-up. Laid BY PROGRAM, IN A SANDBOX (cutbox-door.mjs). By AI agents, Wed Nov 11 2026. No macro, syntax, notation, axiom, sorry.
-/
import Derived.Test.YbulkdsiDoorRows
import Derived.LaidByTextLater
import Derived.SevenTiedAt
import Derived.LaidSub
import Derived.LaidOnce
namespace Go.Proofs.YbulkdsiDoor
open Go
set_option maxRecDepth 100000
theorem seatTie1 : Ybad.prog.laidByTextLater [("example.com/levee/levee/internal/http1.errEscape", Rows.laid_example_com_levee_levee_internal_http1_errEscape), ("example.com/levee/levee/internal/http1.errEscapedSlash", Rows.laid_example_com_levee_levee_internal_http1_errEscapedSlash)] [.sentinel, .sentinel] true :=
  Program.laidByTextLater_by_one 47 8 2 (by kernel_rfl) (by kernel_rfl) (by kernel_rfl) (by kernel_rfl) (by kernel_rfl) (by kernel_rfl) (fun _ _ => by kernel_rfl)
theorem noOwnUnsafe : Ybad.pinned.checked.prog.headLifts.contains "ownunsafe" = false := by kernel_rfl
theorem tie : Ybad.prog.laidByTextLater [("example.com/levee/levee/internal/http1.errEscape", Rows.laid_example_com_levee_levee_internal_http1_errEscape), ("example.com/levee/levee/internal/http1.errEscapedSlash", Rows.laid_example_com_levee_levee_internal_http1_errEscapedSlash)] [.sentinel, .sentinel] true :=
  Program.laidByTextLater.sub seatTie1 ["example.com/levee/levee/internal/http1.errEscape", "example.com/levee/levee/internal/http1.errEscapedSlash"] (by kernel_rfl) (by kernel_rfl)
theorem lawS0229BPart_row_tie : Rows.lawS0229BPartRow.laidByTextAt .later Ybad.pinned [.sentinel, .sentinel] true :=
  OpenClaim.laidByTextAt_later rfl rfl tie noOwnUnsafe
end Go.Proofs.YbulkdsiDoor
