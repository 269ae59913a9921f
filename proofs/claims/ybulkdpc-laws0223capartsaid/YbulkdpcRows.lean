/-
  No cell of these rows narrows 'for every input' (looked for: loops, veiled, ifaces, maps, wideKeys, modest, calm, conditions, laid).
  DERIVED. THE GIVEN ROWS OF THIS SEAT. 4 by the template 'for every input the law returns true; each argument reads behind the call as it read before'; 0 by the template 'total and deterministic' (their statements: YbulkdpcTotals.lean).
  GIVEN WITH THE SEED: the statements are not yours to turn. If you find one false, say at which input.
  Laid BY PROGRAM, IN A SANDBOX (cutbox-rows.mjs): the forced cells as the released guide's own fill.sh prints them over the translation 8e78fe4c011a4d6c… (all of the seat's roots in one cut). By AI agents, Wed Nov 11 2026. No macro, syntax, notation, axiom, sorry.
-/
import Derived.Test.YbulkdpcChecked
import GoSem.Claim
import GoSem.ClaimJoined
import GoSem.ClaimMapViews
import Derived.JoinedTies
import Derived.KernelRfl
namespace Go.Proofs.Ybulkdpc
/- THE CELL 'sum', in the pinned program and in every row, IS THE sha256 OF THE DUMP (.gsa) THAT YbulkdpcProg.lean LOADS. Nothing in Lean hashes anything: it is a label: what it is worth is what the hold of that sum in a sandbox is worth. -/
noncomputable def Yba.pinned : Pinned := { name := "ybulkdpc", sum := "8e78fe4c011a4d6c8ea9ead3d29764b5b387363d65636dc7236bf074b69ef902", checked := Yba.checked }
namespace Rows
def none {H : Type} : Left H := { results := [], args := [] }

/-- 'conclave.LawS0223BBinary': WHATEVER THE INPUT: true; the input reads as it did. -/
def lawS0223BBinarySpec : ChangeSpec := { name := "lawS0223BBinary", fn := fun _ => fun
  | [d] => { results := [.lit (.bool true)], args := [d] }
  | _ => none }
def lawS0223BBinaryRow : OpenClaim := { program := "ybulkdpc", sum := "8e78fe4c011a4d6c8ea9ead3d29764b5b387363d65636dc7236bf074b69ef902", func := "example.com/conclave/conclave.LawS0223BBinary", spec := "lawS0223BBinary", unfollowed := true, recurses := true, apart := false }
def LawS0223BBinarySaid : Prop := lawS0223BBinaryRow.holds Yba.pinned (OpenSpec.ofChange lawS0223BBinarySpec)

/-- ITS FALSE NEIGHBOUR: 'it returns false'. Refute it at one input. -/
def lawS0223BBinaryWrong : ChangeSpec := { name := "lawS0223BBinary", fn := fun _ => fun
  | [d] => { results := [.lit (.bool false)], args := [d] }
  | _ => none }
def LawS0223BBinaryWrongFalsely : Prop := lawS0223BBinaryRow.holds Yba.pinned (OpenSpec.ofChange lawS0223BBinaryWrong)

/-- 'conclave.LawS0223BStop': WHATEVER THE INPUT: true; the input reads as it did. -/
def lawS0223BStopSpec : ChangeSpec := { name := "lawS0223BStop", fn := fun _ => fun
  | [d1, d2] => { results := [.lit (.bool true)], args := [d1, d2] }
  | _ => none }
def lawS0223BStopRow : OpenClaim := { program := "ybulkdpc", sum := "8e78fe4c011a4d6c8ea9ead3d29764b5b387363d65636dc7236bf074b69ef902", func := "example.com/conclave/conclave.LawS0223BStop", spec := "lawS0223BStop", unfollowed := true, recurses := true, apart := false }
def LawS0223BStopSaid : Prop := lawS0223BStopRow.holds Yba.pinned (OpenSpec.ofChange lawS0223BStopSpec)

/-- ITS FALSE NEIGHBOUR: 'it returns false'. Refute it at one input. -/
def lawS0223BStopWrong : ChangeSpec := { name := "lawS0223BStop", fn := fun _ => fun
  | [d1, d2] => { results := [.lit (.bool false)], args := [d1, d2] }
  | _ => none }
def LawS0223BStopWrongFalsely : Prop := lawS0223BStopRow.holds Yba.pinned (OpenSpec.ofChange lawS0223BStopWrong)

/-- 'paxos.LawS0223CCopy': WHATEVER THE INPUT: true; the input reads as it did. -/
def lawS0223CCopySpec : ChangeSpec := { name := "lawS0223CCopy", fn := fun _ => fun
  | [d1, d2, d3, d4, d5] => { results := [.lit (.bool true)], args := [d1, d2, d3, d4, d5] }
  | _ => none }
def lawS0223CCopyRow : OpenClaim := { program := "ybulkdpc", sum := "8e78fe4c011a4d6c8ea9ead3d29764b5b387363d65636dc7236bf074b69ef902", func := "example.com/conclave/conclave/paxos.LawS0223CCopy", spec := "lawS0223CCopy", apart := false }
def LawS0223CCopySaid : Prop := lawS0223CCopyRow.holds Yba.pinned (OpenSpec.ofChange lawS0223CCopySpec)

/-- ITS FALSE NEIGHBOUR: 'it returns false'. Refute it at one input. -/
def lawS0223CCopyWrong : ChangeSpec := { name := "lawS0223CCopy", fn := fun _ => fun
  | [d1, d2, d3, d4, d5] => { results := [.lit (.bool false)], args := [d1, d2, d3, d4, d5] }
  | _ => none }
def LawS0223CCopyWrongFalsely : Prop := lawS0223CCopyRow.holds Yba.pinned (OpenSpec.ofChange lawS0223CCopyWrong)

/-- 'paxos.LawS0223CApart': WHATEVER THE INPUT: true; the input reads as it did. -/
def lawS0223CApartSpec : ChangeSpec := { name := "lawS0223CApart", fn := fun _ => fun
  | [d1, d2, d3, d4, d5] => { results := [.lit (.bool true)], args := [d1, d2, d3, d4, d5] }
  | _ => none }
def lawS0223CApartRow : OpenClaim := { program := "ybulkdpc", sum := "8e78fe4c011a4d6c8ea9ead3d29764b5b387363d65636dc7236bf074b69ef902", func := "example.com/conclave/conclave/paxos.LawS0223CApart", spec := "lawS0223CApart", inPlace := ["slices.overlaps[int]"], apart := false }
def LawS0223CApartSaid : Prop := lawS0223CApartRow.holds Yba.pinned (OpenSpec.ofChange lawS0223CApartSpec)

/-- ITS FALSE NEIGHBOUR: 'it returns false'. Refute it at one input. -/
def lawS0223CApartWrong : ChangeSpec := { name := "lawS0223CApart", fn := fun _ => fun
  | [d1, d2, d3, d4, d5] => { results := [.lit (.bool false)], args := [d1, d2, d3, d4, d5] }
  | _ => none }
def LawS0223CApartWrongFalsely : Prop := lawS0223CApartRow.holds Yba.pinned (OpenSpec.ofChange lawS0223CApartWrong)

end Rows
end Go.Proofs.Ybulkdpc
