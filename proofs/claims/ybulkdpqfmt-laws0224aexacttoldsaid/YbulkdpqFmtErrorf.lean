/-
  fmt.Errorf at the two formats of parseWindow: an error that is not nil, in new memory.
-/
import Derived.Test.YbulkdpqFmtRows
import Derived.Stop.CallBack
import Derived.Stop.IfaceNil
import GoSem.ClaimData
import Derived.WalkKit
import Derived.WalkSpells
import Derived.WalkLawsBesides
namespace Go.Proofs.YbulkdpqFmt
open Go.RowKit Go.Extern.Stop Go.Stop Go.Extern

theorem call9 (args : Array Value) (w : World) : (callFunc 9 args).run Ybaf.prog w = ((FmtStop.errorf #[9, 39] #[27] args).run Ybaf.prog w).andThen fun v w' => .ok (.value v) w' :=
  run_callFunc_extern Ybaf.func9 (by kernel_rfl) (by kernel_rfl) (by kernel_rfl) (by kernel_rfl) args w
theorem guard (name : String) (w : World) : (FmtStop.guard name).run Ybaf.prog w = .ok () w := by kernel_rfl
def fmtA : ByteArray := ⟨#[37, 113, 32, 105, 115, 32, 110, 111, 116, 32, 97, 32, 114, 97, 110, 103, 101, 32, 111, 102, 32, 116, 104, 101, 32, 100, 97, 121, 32, 119, 114, 105, 116, 116, 101, 110, 32, 72, 72, 58, 77, 77, 45, 72, 72, 58, 77, 77]⟩
def fmtB : ByteArray := ⟨#[37, 113, 32, 101, 110, 100, 115, 32, 119, 104, 101, 110, 32, 105, 116, 32, 115, 116, 97, 114, 116, 115]⟩
theorem fmtA1 : FmtStop.printed? fmtA 1 = some [(0, 113, false)] := by kernel_rfl
theorem fmtA1r (w : World) : (FmtDoors.printed fmtA 1).run Ybaf.prog w = .ok [(0, 113, false)] w := by kernel_rfl
theorem fmtB1 : FmtStop.printed? fmtB 1 = some [(0, 113, false)] := by kernel_rfl
theorem fmtB1r (w : World) : (FmtDoors.printed fmtB 1).run Ybaf.prog w = .ok [(0, 113, false)] w := by kernel_rfl
def shape9 : List UInt8 := [12, 6, 0, 0, 0, 0, 0, 0, 0, 115, 116, 114, 105, 110, 103]
theorem op9_113w (name : String) (x : ByteArray) (w : World) : (FmtStop.operand name true 113 false (.iface 9 (.string x))).run Ybaf.prog w = .ok (shape9, FmtStop.pack x.data.toList) w := by kernel_rfl
theorem op9_113 (name : String) (x : ByteArray) (w : World) : (FmtStop.operand name false 113 false (.iface 9 (.string x))).run Ybaf.prog w = .ok (shape9, FmtStop.pack x.data.toList) w := by kernel_rfl
theorem ptr45 (w : World) : (FmtStop.ptrTo "errors.errorString").run Ybaf.prog w = .ok 45 w := by kernel_rfl
theorem elem45 (w : World) : (elemOf 45).run Ybaf.prog w = .ok 47 w := by kernel_rfl
theorem isError45 (w : World) : (FmtDoors.textMethod 45 "Error").run Ybaf.prog w = .ok true w := by kernel_rfl
attribute [local go_sem] call9 guard fmtA1 fmtA1r fmtB1 fmtB1r op9_113w op9_113 ptr45 elem45 isError45

set_option maxHeartbeats 400000 in
theorem errorfA (F : Interp) (s : ByteArray) (b : Nat) (w : World) (hF : F.answers w.tape) (hc : w.cell? ⟨b, 0, none⟩ = some (.iface 9 (.string s))) :
    Calls Ybaf.prog 7 #[.string fmtA, .slice (some ⟨b, 0, none⟩) 1 1] w fun e w' => (∃ g, e = .returned (.iface 45 (.pointer (some ⟨g, 0, none⟩)))) ∧ Below w.heap.size w w' := by
  have hF' := hF
  unfold Interp.answers at hF'
  go_enter Ybaf.func7, Ybaf.ntmps7
  go_wp2
  go_ret
  exact ⟨⟨_, rfl⟩, ((Below.refl _ w).alloc (Nat.le_refl _) _).drew⟩
set_option maxHeartbeats 400000 in
theorem errorfB (F : Interp) (s : ByteArray) (b : Nat) (w : World) (hF : F.answers w.tape) (hc : w.cell? ⟨b, 0, none⟩ = some (.iface 9 (.string s))) :
    Calls Ybaf.prog 7 #[.string fmtB, .slice (some ⟨b, 0, none⟩) 1 1] w fun e w' => (∃ g, e = .returned (.iface 45 (.pointer (some ⟨g, 0, none⟩)))) ∧ Below w.heap.size w w' := by
  have hF' := hF
  unfold Interp.answers at hF'
  go_enter Ybaf.func7, Ybaf.ntmps7
  go_wp2
  go_ret
  exact ⟨⟨_, rfl⟩, ((Below.refl _ w).alloc (Nat.le_refl _) _).drew⟩
end Go.Proofs.YbulkdpqFmt
