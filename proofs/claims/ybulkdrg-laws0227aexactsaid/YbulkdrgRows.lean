/-
  No cell of these rows narrows 'for every input' (looked for: loops, veiled, ifaces, maps, wideKeys, modest, calm, conditions, laid).
  DERIVED. THE GIVEN ROWS OF THIS SEAT. 2 by the template 'for every input the law returns true; each argument reads behind the call as it read before'; 0 by the template 'total and deterministic' (their statements: YbulkdrgTotals.lean).
  GIVEN WITH THE SEED: the statements are not yours to turn. If you find one false, say at which input.
  Laid BY PROGRAM, IN A SANDBOX (cutbox-rows.mjs): the forced cells as the released guide's own fill.sh prints them over the translation f9144562d7dd4d3c… (all of the seat's roots in one cut). By AI agents, Wed Nov 11 2026. No macro, syntax, notation, axiom, sorry.
-/
import Derived.Test.YbulkdrgChecked
import GoSem.Claim
import GoSem.ClaimJoined
import GoSem.ClaimMapViews
import Derived.JoinedTies
import Derived.KernelRfl
namespace Go.Proofs.Ybulkdrg
/- THE CELL 'sum', in the pinned program and in every row, IS THE sha256 OF THE DUMP (.gsa) THAT YbulkdrgProg.lean LOADS. Nothing in Lean hashes anything: it is a label: what it is worth is what the hold of that sum in a sandbox is worth. -/
noncomputable def Yba.pinned : Pinned := { name := "ybulkdrg", sum := "f9144562d7dd4d3cd1b127cfd7a114dbf5ed1d85fe277e44e749fee7df9c2e28", checked := Yba.checked }
namespace Rows
def none {H : Type} : Left H := { results := [], args := [] }

/-- 'memtable.LawS0227AExact': WHATEVER THE INPUT: true; the input reads as it did. -/
def lawS0227AExactSpec : ChangeSpec := { name := "lawS0227AExact", fn := fun _ => fun
  | [d1, d2] => { results := [.lit (.bool true)], args := [d1, d2] }
  | _ => none }
def lawS0227AExactRow : OpenClaim := { program := "ybulkdrg", sum := "f9144562d7dd4d3cd1b127cfd7a114dbf5ed1d85fe277e44e749fee7df9c2e28", func := "example.com/sortstone/sortstone/internal/memtable.LawS0227AExact", spec := "lawS0227AExact", apart := false }
def LawS0227AExactSaid : Prop := lawS0227AExactRow.holds Yba.pinned (OpenSpec.ofChange lawS0227AExactSpec)

/-- ITS FALSE NEIGHBOUR: 'it returns false'. Refute it at one input. -/
def lawS0227AExactWrong : ChangeSpec := { name := "lawS0227AExact", fn := fun _ => fun
  | [d1, d2] => { results := [.lit (.bool false)], args := [d1, d2] }
  | _ => none }
def LawS0227AExactWrongFalsely : Prop := lawS0227AExactRow.holds Yba.pinned (OpenSpec.ofChange lawS0227AExactWrong)

/-- 'memtable.LawS0227AKeeps': WHATEVER THE INPUT: true; the input reads as it did. -/
def lawS0227AKeepsSpec : ChangeSpec := { name := "lawS0227AKeeps", fn := fun _ => fun
  | [d1, d2] => { results := [.lit (.bool true)], args := [d1, d2] }
  | _ => none }
def lawS0227AKeepsRow : OpenClaim := { program := "ybulkdrg", sum := "f9144562d7dd4d3cd1b127cfd7a114dbf5ed1d85fe277e44e749fee7df9c2e28", func := "example.com/sortstone/sortstone/internal/memtable.LawS0227AKeeps", spec := "lawS0227AKeeps", apart := false }
def LawS0227AKeepsSaid : Prop := lawS0227AKeepsRow.holds Yba.pinned (OpenSpec.ofChange lawS0227AKeepsSpec)

/-- ITS FALSE NEIGHBOUR: 'it returns false'. Refute it at one input. -/
def lawS0227AKeepsWrong : ChangeSpec := { name := "lawS0227AKeeps", fn := fun _ => fun
  | [d1, d2] => { results := [.lit (.bool false)], args := [d1, d2] }
  | _ => none }
def LawS0227AKeepsWrongFalsely : Prop := lawS0227AKeepsRow.holds Yba.pinned (OpenSpec.ofChange lawS0227AKeepsWrong)

end Rows
end Go.Proofs.Ybulkdrg
