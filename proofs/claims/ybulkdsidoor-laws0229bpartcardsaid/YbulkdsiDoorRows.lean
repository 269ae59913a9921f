/-
  NARROWER THAN 'FOR EVERY INPUT', by the rows' own cells (each row's printed sentence says how): LawS0229BPart: ifaces, laid.
  DERIVED. THE GIVEN ROWS OF THIS SEAT. 1 by the template 'for every input the law returns true; each argument reads behind the call as it read before'; 0 by the template 'total and deterministic' (their statements: YbulkdsiDoorTotals.lean).
  GIVEN WITH THE SEED: the statements are not yours to turn. If you find one false, say at which input.
  Laid BY PROGRAM, IN A SANDBOX (cutbox-rows.mjs): the forced cells as the released guide's own fill.sh prints them over the translation b873da6436819830… (all of the seat's roots in one cut). By AI agents, Wed Nov 11 2026. No macro, syntax, notation, axiom, sorry.
-/
import Derived.Test.YbulkdsiDoorChecked
import GoSem.Claim
import GoSem.ClaimJoined
import GoSem.ClaimMapViews
import Derived.JoinedTies
import Derived.KernelRfl
namespace Go.Proofs.YbulkdsiDoor
/- THE CELL 'sum', in the pinned program and in every row, IS THE sha256 OF THE DUMP (.gsa) THAT YbulkdsiDoorProg.lean LOADS. Nothing in Lean hashes anything: it is a label: what it is worth is what the hold of that sum in a sandbox is worth. -/
noncomputable def Ybad.pinned : Pinned := { name := "ybulkdsidoor", sum := "b873da6436819830f809506f2de29b63ddbe699c20173d44c02d721cfb556d82", checked := Ybad.checked }
namespace Rows
def none {H : Type} : Left H := { results := [], args := [] }

/- WHAT THE LISTED PACKAGE-LEVEL VARIABLES READ AS WHEN THE CALL BEGINS. Each datum BY PROGRAM (the guide's laid-datum.mjs) off the statement by which the dump's own 'gosem.cut.vars' lays the variable. In a bare row this is a premise. The card (YbulkdsiDoorCards.lean) ties it to the program's text. -/
def laid_example_com_levee_levee_internal_http1_errEscape {H : Type} : DataW H := .iface "*errors.errorString" (.ptr (.agg [.lit (.string [104, 116, 116, 112, 49, 58, 32, 97, 32, 34, 37, 34, 32, 105, 110, 32, 97, 32, 112, 97, 116, 104, 32, 109, 117, 115, 116, 32, 98, 101, 103, 105, 110, 32, 97, 110, 32, 101, 115, 99, 97, 112, 101, 32, 111, 102, 32, 116, 119, 111, 32, 104, 101, 120, 97, 100, 101, 99, 105, 109, 97, 108, 32, 100, 105, 103, 105, 116, 115])]))
def laid_example_com_levee_levee_internal_http1_errEscapedSlash {H : Type} : DataW H := .iface "*errors.errorString" (.ptr (.agg [.lit (.string [104, 116, 116, 112, 49, 58, 32, 97, 110, 32, 101, 115, 99, 97, 112, 101, 100, 32, 34, 47, 34, 32, 105, 110, 32, 97, 32, 112, 97, 116, 104, 32, 112, 117, 116, 115, 32, 105, 116, 115, 32, 114, 101, 113, 117, 101, 115, 116, 32, 105, 110, 32, 111, 110, 101, 32, 99, 108, 97, 115, 115, 32, 111, 114, 32, 97, 110, 111, 116, 104, 101, 114, 44, 32, 97, 115, 32, 97, 32, 115, 101, 114, 118, 101, 114, 32, 114, 101, 97, 100, 115, 32, 105, 116])]))

/-- 'http1.LawS0229BPart': WHATEVER THE INPUT: true; the input reads as it did. -/
def lawS0229BPartSpec : ChangeSpec := { name := "lawS0229BPart", vars := ["example.com/levee/levee/internal/http1.errEscape", "example.com/levee/levee/internal/http1.errEscapedSlash"], fn := fun _ => fun
  | [d, g1, g2] => { results := [.lit (.bool true)], args := [d], vars := [g1, g2] }
  | _ => none }
def lawS0229BPartRow : OpenClaim := { program := "ybulkdsidoor", sum := "b873da6436819830f809506f2de29b63ddbe699c20173d44c02d721cfb556d82", func := "example.com/levee/levee/internal/http1.LawS0229BPart", spec := "lawS0229BPart", unfollowed := true, recurses := true, named := ["example.com/levee/levee/internal/http1.errEscape", "example.com/levee/levee/internal/http1.errEscapedSlash"], ifaces := true, apart := false, laid := [("example.com/levee/levee/internal/http1.errEscape", laid_example_com_levee_levee_internal_http1_errEscape), ("example.com/levee/levee/internal/http1.errEscapedSlash", laid_example_com_levee_levee_internal_http1_errEscapedSlash)] }
def LawS0229BPartSaid : Prop := lawS0229BPartRow.holds Ybad.pinned (OpenSpec.ofChange lawS0229BPartSpec)

/-- ITS FALSE NEIGHBOUR: 'it returns false'. Refute it at one input. -/
def lawS0229BPartWrong : ChangeSpec := { name := "lawS0229BPart", vars := ["example.com/levee/levee/internal/http1.errEscape", "example.com/levee/levee/internal/http1.errEscapedSlash"], fn := fun _ => fun
  | [d, g1, g2] => { results := [.lit (.bool false)], args := [d], vars := [g1, g2] }
  | _ => none }
def LawS0229BPartWrongFalsely : Prop := lawS0229BPartRow.holds Ybad.pinned (OpenSpec.ofChange lawS0229BPartWrong)

end Rows
end Go.Proofs.YbulkdsiDoor
