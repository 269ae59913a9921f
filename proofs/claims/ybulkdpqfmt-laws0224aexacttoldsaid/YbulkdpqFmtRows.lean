/-
  No cell of these rows narrows 'for every input' (looked for: loops, veiled, ifaces, maps, wideKeys, modest, calm, conditions, laid).
  DERIVED. THE GIVEN ROWS OF THIS SEAT. 2 by the template 'for every input the law returns true; each argument reads behind the call as it read before'; 0 by the template 'total and deterministic' (their statements: YbulkdpqFmtTotals.lean).
  GIVEN WITH THE SEED: the statements are not yours to turn. If you find one false, say at which input.
  Laid BY PROGRAM, IN A SANDBOX (cutbox-rows.mjs): the forced cells as the released guide's own fill.sh prints them over the translation 89449893dc7338e2… (all of the seat's roots in one cut). By AI agents, Wed Nov 11 2026. No macro, syntax, notation, axiom, sorry.
-/
import Derived.Test.YbulkdpqFmtChecked
import GoSem.Claim
import GoSem.ClaimJoined
import GoSem.ClaimMapViews
import Derived.JoinedTies
import Derived.KernelRfl
namespace Go.Proofs.YbulkdpqFmt
/- THE CELL 'sum', in the pinned program and in every row, IS THE sha256 OF THE DUMP (.gsa) THAT YbulkdpqFmtProg.lean LOADS. Nothing in Lean hashes anything: it is a label: what it is worth is what the hold of that sum in a sandbox is worth. -/
noncomputable def Ybaf.pinned : Pinned := { name := "ybulkdpqfmt", sum := "89449893dc7338e21a917ee89eeeb389d46139ff39cc5b8dcaa782296da20828", checked := Ybaf.checked }
namespace Rows
def none {H : Type} : Left H := { results := [], args := [] }

/-- 'exchange.LawS0224AExact': WHATEVER THE INPUT: true; the input reads as it did. -/
def lawS0224AExactSpec : ChangeSpec := { name := "lawS0224AExact", fn := fun _ => fun
  | [d1, d2, d3, d4] => { results := [.lit (.bool true)], args := [d1, d2, d3, d4] }
  | _ => none }
def lawS0224AExactRow : OpenClaim := { program := "ybulkdpqfmt", sum := "89449893dc7338e21a917ee89eeeb389d46139ff39cc5b8dcaa782296da20828", func := "example.com/ingotbook/ingotbook/exchange.LawS0224AExact", spec := "lawS0224AExact", stops := ["fmt.errorf"], inPlace := ["fmt.errorf"], unfollowed := true, recurses := true, apart := false }
/-- NO THEOREM (fmt's text is open here; it may be false): for the released tool's asking of the row's closed facts alone. THE STATEMENT IS 'LawS0224AExactToldSaid' (YbulkdpqFmtCards.lean). -/
def LawS0224AExactFormAsk : Prop := lawS0224AExactRow.holds Ybaf.pinned (OpenSpec.ofChange lawS0224AExactSpec)

/-- ITS FALSE NEIGHBOUR: 'it returns false'. Refute it at one input. -/
def lawS0224AExactWrong : ChangeSpec := { name := "lawS0224AExact", fn := fun _ => fun
  | [d1, d2, d3, d4] => { results := [.lit (.bool false)], args := [d1, d2, d3, d4] }
  | _ => none }
def LawS0224AExactWrongFormAsk : Prop := lawS0224AExactRow.holds Ybaf.pinned (OpenSpec.ofChange lawS0224AExactWrong)

/-- 'exchange.LawS0224AShape': WHATEVER THE INPUT: true; the input reads as it did. -/
def lawS0224AShapeSpec : ChangeSpec := { name := "lawS0224AShape", fn := fun _ => fun
  | [d] => { results := [.lit (.bool true)], args := [d] }
  | _ => none }
def lawS0224AShapeRow : OpenClaim := { program := "ybulkdpqfmt", sum := "89449893dc7338e21a917ee89eeeb389d46139ff39cc5b8dcaa782296da20828", func := "example.com/ingotbook/ingotbook/exchange.LawS0224AShape", spec := "lawS0224AShape", stops := ["fmt.errorf"], inPlace := ["fmt.errorf"], unfollowed := true, recurses := true, apart := false }
/-- NO THEOREM (fmt's text is open here; it may be false): for the released tool's asking of the row's closed facts alone. THE STATEMENT IS 'LawS0224AShapeToldSaid' (YbulkdpqFmtCards.lean). -/
def LawS0224AShapeFormAsk : Prop := lawS0224AShapeRow.holds Ybaf.pinned (OpenSpec.ofChange lawS0224AShapeSpec)

/-- ITS FALSE NEIGHBOUR: 'it returns false'. Refute it at one input. -/
def lawS0224AShapeWrong : ChangeSpec := { name := "lawS0224AShape", fn := fun _ => fun
  | [d] => { results := [.lit (.bool false)], args := [d] }
  | _ => none }
def LawS0224AShapeWrongFormAsk : Prop := lawS0224AShapeRow.holds Ybaf.pinned (OpenSpec.ofChange lawS0224AShapeWrong)

end Rows
end Go.Proofs.YbulkdpqFmt
