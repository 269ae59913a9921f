/-
  The searches of classOf at the prefix "/", walked.
-/
import Derived.Test.YbulkdsiDoorEnd
namespace Go.Proofs.YbulkdsiDoor
open Go.RowKit
set_option linter.unusedVariables false

def slashS : ByteArray := ⟨#[47]⟩
def allS : ByteArray := ⟨#[97, 108, 108]⟩

set_option maxHeartbeats 1000000 in
theorem search_none (a : Option Addr) (db : Nat) (c : Int) (w : World) :
    Calls Ybad.prog 27 #[.slice a 0 0, .int .i64 c, .func (.func 26) #[] #[.pointer (some ⟨db, 0, none⟩)]] w fun e w' => e = .returned (.tuple #[.int .i64 0, .bool false]) ∧ w' = w := by
  go_enter Ybad.func27, Ybad.ntmps27
  go_wp2_with fail
  go_loopw [9, 10] (fun i j wr => i = .int .i64 0 ∧ j = .int .i64 0 ∧ wr = w) (fun i j _ => 0)
  case atStart => exact ⟨rfl, rfl, rfl⟩
  case round =>
    obtain ⟨rfl, rfl, rfl⟩ := hrel
    go_wp2_with fail
    go_ret2
    exact ⟨rfl, rfl⟩

set_option maxHeartbeats 1000000 in
theorem byteAt_calls (db : Nat) (c : Int) (hc : c = 47 ∨ c = 48) (w : World) (hd : w.cell? ⟨db, 0, none⟩ = some (.int .i64 0)) :
    Calls Ybad.prog 26 #[.string ⟨#[47]⟩, .int .i64 c, .pointer (some ⟨db, 0, none⟩)] w fun e w' => e = .returned (.int .i64 (47 - c)) ∧ w' = w := by
  rcases hc with rfl | rfl
  all_goals
    go_enter Ybad.func26, Ybad.ntmps26
    go_wp2_with fail
    go_ret
    exact ⟨by kernel_rfl, rfl⟩

set_option maxHeartbeats 1000000 in
theorem search_one (pb db : Nat) (c : Int) (hc : c = 47 ∨ c = 48) (w : World) (hd : w.cell? ⟨db, 0, none⟩ = some (.int .i64 0)) (hp : w.cell? ⟨pb, 0, none⟩ = some (.string ⟨#[47]⟩)) :
    Calls Ybad.prog 27 #[.slice (some ⟨pb, 0, none⟩) 1 1, .int .i64 c, .func (.func 26) #[] #[.pointer (some ⟨db, 0, none⟩)]] w fun e w' => e = .returned (.tuple #[.int .i64 (c - 47), .bool (c == 47)]) ∧ w' = w := by
  go_enter Ybad.func27, Ybad.ntmps27
  go_wp2_with fail
  go_loopw [9, 10, 11] (fun i j h wr => wr = w ∧ ((i = .int .i64 0 ∧ j = .int .i64 1) ∨ (c = 47 ∧ i = .int .i64 0 ∧ j = .int .i64 0) ∨ (c = 48 ∧ i = .int .i64 1 ∧ j = .int .i64 1))) (fun i j _ _ => (intOf j - intOf i).toNat)
  case atStart => exact ⟨rfl, .inl ⟨rfl, rfl⟩⟩
  case round =>
    obtain ⟨rfl, ⟨rfl, rfl⟩ | ⟨rfl, rfl, rfl⟩ | ⟨rfl, rfl, rfl⟩⟩ := hrel
    · rcases hc with rfl | rfl
      · go_wp2_with fail
        refine (byteAt_calls db 47 (.inl rfl) _ hd).mono ?_
        rintro e w1 ⟨rfl, rfl⟩
        go_wp2_with fail
        exact ⟨⟨trivial, .inr (.inl ⟨trivial, rfl, rfl⟩)⟩, by simp [intOf]⟩
      · go_wp2_with fail
        refine (byteAt_calls db 48 (.inr rfl) _ hd).mono ?_
        rintro e w1 ⟨rfl, rfl⟩
        go_wp2_with fail
        exact ⟨⟨trivial, .inr (.inr ⟨trivial, rfl, rfl⟩)⟩, by simp [intOf]⟩
    · go_wp2_with fail
      refine (byteAt_calls db 47 (.inl rfl) _ hd).mono ?_
      rintro e w1 ⟨rfl, rfl⟩
      go_wp2_with fail
      go_ret2
      exact ⟨rfl, rfl⟩
    · go_wp2_with fail
      go_ret2
      exact ⟨rfl, rfl⟩

end Go.Proofs.YbulkdsiDoor
