/-
  The letters' tests and the plain table, walked.
-/
import Derived.Test.YbulkdsiDoorPathEnd
namespace Go.Proofs.YbulkdsiDoor
open Go.RowKit
set_option linter.unusedVariables false

/-- The bytes of the law's table. -/
def InT (c : Int) : Prop := c = 47 ∨ c = 58 ∨ c = 63 ∨ c = 97 ∨ c = 90 ∨ c = 57 ∨ c = 43 ∨ c = 45 ∨ c = 46 ∨ c = 32 ∨ c = 35 ∨ c = 104
def letterP (c : Int) : Bool := (decide (97 ≤ c) && decide (c ≤ 122)) || (decide (65 ≤ c) && decide (c ≤ 90))
def digitP (c : Int) : Bool := decide (48 ≤ c) && decide (c ≤ 57)
def lowerP (c : Int) : Int := if 65 ≤ c ∧ c ≤ 90 then c + 32 else c

set_option maxHeartbeats 1000000 in
theorem lower_calls (c : Int) (hc : InT c) (w : World) : Calls Ybad.prog 17 #[.int .u8 c] w fun e w' => e = .returned (.int .u8 (lowerP c)) ∧ w' = w := by
  rcases hc with rfl | rfl | rfl | rfl | rfl | rfl | rfl | rfl | rfl | rfl | rfl | rfl
  all_goals
    go_enter Ybad.func17, Ybad.ntmps17
    go_wp2_with fail
    go_ret
    exact ⟨rfl, rfl⟩
theorem lower_of (c r : Int) (hr : lowerP c = r) (hc : InT c) (w : World) : Calls Ybad.prog 17 #[.int .u8 c] w fun e w' => e = .returned (.int .u8 r) ∧ w' = w := hr ▸ lower_calls c hc w
theorem lowerSame (c : Int) (hr : lowerP c = c) (hc : InT c) (w : World) : Calls Ybad.prog 17 #[.int .u8 c] w fun e w' => e = .returned (.int .u8 c) ∧ w' = w := lower_of c c hr hc w
set_option maxHeartbeats 1000000 in
theorem isLetter_calls (c : Int) (hc : InT c) (w : World) : Calls Ybad.prog 8 #[.int .u8 c] w fun e w' => e = .returned (.bool (letterP c)) ∧ w' = w := by
  have hc' := hc
  by_cases h90 : c = 90
  · subst h90
    go_enter Ybad.func8, Ybad.ntmps8
    go_wp2_with (go_at_call 17; refine (lower_of 90 122 rfl hc' _).mono ?_; rintro e w1 ⟨rfl, rfl⟩)
    go_ret
    exact ⟨rfl, rfl⟩
  · rcases hc with rfl | rfl | rfl | rfl | rfl | rfl | rfl | rfl | rfl | rfl | rfl | rfl
    rotate_left 4
    · exact absurd rfl h90
    all_goals
      go_enter Ybad.func8, Ybad.ntmps8
      go_wp2_with (go_at_call 17; refine (lowerSame _ rfl hc' _).mono ?_; rintro e w1 ⟨rfl, rfl⟩)
      go_ret
      exact ⟨rfl, rfl⟩
set_option maxHeartbeats 1000000 in
theorem isDigit_calls (c : Int) (hc : InT c) (w : World) : Calls Ybad.prog 9 #[.int .u8 c] w fun e w' => e = .returned (.bool (digitP c)) ∧ w' = w := by
  rcases hc with rfl | rfl | rfl | rfl | rfl | rfl | rfl | rfl | rfl | rfl | rfl | rfl
  all_goals
    go_enter Ybad.func9, Ybad.ntmps9
    go_wp2_with fail
    go_ret
    exact ⟨rfl, rfl⟩
set_option maxHeartbeats 1000000 in
theorem letter_calls (c : Int) (hc : InT c) (w : World) : Calls Ybad.prog 12 #[.int .u8 c] w fun e w' => e = .returned (.bool (letterP c)) ∧ w' = w := by
  rcases hc with rfl | rfl | rfl | rfl | rfl | rfl | rfl | rfl | rfl | rfl | rfl | rfl
  all_goals
    go_enter Ybad.func12, Ybad.ntmps12
    go_wp2_with fail
    go_ret
    exact ⟨rfl, rfl⟩
theorem isLetter_of (c : Int) (b : Bool) (hb : letterP c = b) (hc : InT c) (w : World) : Calls Ybad.prog 8 #[.int .u8 c] w fun e w' => e = .returned (.bool b) ∧ w' = w := hb ▸ isLetter_calls c hc w
theorem isDigit_of (c : Int) (b : Bool) (hb : digitP c = b) (hc : InT c) (w : World) : Calls Ybad.prog 9 #[.int .u8 c] w fun e w' => e = .returned (.bool b) ∧ w' = w := hb ▸ isDigit_calls c hc w
theorem letter_of (c : Int) (b : Bool) (hb : letterP c = b) (hc : InT c) (w : World) : Calls Ybad.prog 12 #[.int .u8 c] w fun e w' => e = .returned (.bool b) ∧ w' = w := hb ▸ letter_calls c hc w

/-- The plain table. -/
def stepP (s c : Int) : Int × Bool :=
  if s = 0 then (if c = 47 then (5, false) else if letterP c then (1, false) else (6, false))
  else if s = 1 then (if c = 58 then (2, false) else if letterP c || digitP c || c == 43 || c == 45 || c == 46 then (1, false) else (6, false))
  else if s = 2 then (if c = 47 then (3, false) else (6, false))
  else if s = 3 then (if c = 47 then (4, false) else if c = 63 then (6, true) else (5, false))
  else if s = 4 then (if c = 47 then (5, false) else if c = 63 then (6, true) else (4, false))
  else if s = 5 then (if c = 63 then (6, true) else (5, false))
  else (6, false)

set_option maxHeartbeats 4000000 in
theorem step_calls (s c : Int) (hs0 : 0 ≤ s) (hs : s ≤ 6) (hc : InT c) (w : World) :
    Calls Ybad.prog 5 #[.int .u8 s, .int .u8 c] w fun e w' => e = .returned (.tuple #[.int .u8 (stepP s c).1, .bool (stepP s c).2]) ∧ w' = w := by
  have hc' := hc
  obtain rfl | rfl | h2 : s = 0 ∨ s = 1 ∨ 2 ≤ s := by omega
  · rcases hc with rfl | rfl | rfl | rfl | rfl | rfl | rfl | rfl | rfl | rfl | rfl | rfl
    all_goals
      have hl := letter_calls _ hc' w
      generalize hb : letterP _ = b at hl
      have hb' : b = letterP _ := hb.symm
      simp only [letterP, Int.reduceLE, decide_true, decide_false, Bool.and_true, Bool.and_false, Bool.or_false, Bool.or_true] at hb'
      subst hb'
      go_enter Ybad.func5, Ybad.ntmps5
      go_wp2_with (go_at_call 12; refine hl.mono ?_; rintro e w1 ⟨rfl, rfl⟩)
      go_ret2
      exact ⟨rfl, rfl⟩
  · rcases hc with rfl | rfl | rfl | rfl | rfl | rfl | rfl | rfl | rfl | rfl | rfl | rfl
    all_goals
      have hl := letter_calls _ hc' w
      generalize hb : letterP _ = b at hl
      have hb' : b = letterP _ := hb.symm
      simp only [letterP, Int.reduceLE, decide_true, decide_false, Bool.and_true, Bool.and_false, Bool.or_false, Bool.or_true] at hb'
      subst hb'
      go_enter Ybad.func5, Ybad.ntmps5
      go_wp2_with (go_at_call 12; refine hl.mono ?_; rintro e w1 ⟨rfl, rfl⟩)
      go_ret2
      exact ⟨rfl, rfl⟩
  · obtain rfl | rfl | rfl | rfl | rfl : s = 2 ∨ s = 3 ∨ s = 4 ∨ s = 5 ∨ s = 6 := by omega
    all_goals
      rcases hc with rfl | rfl | rfl | rfl | rfl | rfl | rfl | rfl | rfl | rfl | rfl | rfl
      all_goals
        go_enter Ybad.func5, Ybad.ntmps5
        go_wp2_with fail
        go_ret2
        exact ⟨rfl, rfl⟩
end Go.Proofs.YbulkdsiDoor
