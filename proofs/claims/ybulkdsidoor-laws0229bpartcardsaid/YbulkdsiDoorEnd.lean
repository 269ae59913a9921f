/-
  The form's end, live, the reader's end, walked.
-/
import Derived.Test.YbulkdsiDoorStart
namespace Go.Proofs.YbulkdsiDoor
open Go.RowKit
set_option linter.unusedVariables false

/-- A form at its end: "/" or "/x". -/
def En (B : World) (mb o cb : Nat) (found : ByteArray) (part : Int) (w : World) : Prop :=
  ∃ (len : Nat) (over y : Int), Sw B mb o (mc cb found part (outV o len) over (-1)) (bytes2 47 y) w ∧ (len = 1 ∨ (len = 2 ∧ ¬ y = 47))

/-- held is written, the slash put. -/
theorem Fo.put {B : World} {mb o cb : Nat} {found : ByteArray} {part : Int} {n len : Nat} {held : Int} {w : World} (h : Fo B mb o cb found part n len held w) :
    Calls Ybad.prog 29 #[.pointer (some ⟨mb, 5, none⟩), .int .u8 47] (w.setCell ⟨mb, 7, none⟩ (.int .i8 (-1))) fun e w' => e = .returned (.tuple #[]) ∧ En B mb o cb found part w' := by
  obtain ⟨over, x, y, hS, a, b, t⟩ := h.ex
  rcases t with rfl | ⟨rfl, rfl, hy⟩
  · exact (put_room B mb o cb found part over (-1) x y 47 _ (hS.setm 7 (.int .i8 (-1)))).mono fun e w' ⟨he, k⟩ => ⟨he, 1, over, y, k, .inl rfl⟩
  · exact (put_full B mb o cb found part over (-1) 47 y 47 _ (hS.setm 7 (.int .i8 (-1)))).mono fun e w' ⟨he, k⟩ => ⟨he, 2, over, y, k, .inr ⟨rfl, hy⟩⟩

set_option maxHeartbeats 1000000 in
theorem fend_calls (B : World) (mb o cb : Nat) (found : ByteArray) (part : Int) (n len : Nat) (held : Int) (hn : n ≤ 5000) (w : World) (h : Fo B mb o cb found part n len held w) :
    Calls Ybad.prog 25 #[.pointer (some ⟨mb, 5, none⟩)] w fun e w' => e = .returned (.tuple #[]) ∧ En B mb o cb found part w' := by
  have k7 := h.c7
  have z7 := h.fz 7
  have hlo := h.hlo
  by_cases hw : held = -1
  · obtain rfl := h.wr hw
    subst hw
    obtain ⟨over, x, y, hS, a, b, t⟩ := h.ex
    obtain ⟨rfl, hy⟩ : x = 47 ∧ ¬ y = 47 := by
      rcases t with t | t
      · exact absurd t (by omega)
      · exact t.2
    go_enter Ybad.func25, Ybad.ntmps25
    go_wp2_with fail
    exact bodyPost_ret (v := .tuple #[]) (by simp [results, Ybad.results25, go_sem]) rfl ⟨rfl, 2, over, y, hS, .inr ⟨rfl, hy⟩⟩
  · have hb : (held == -1) = false := by simp [hw]
    by_cases hh : held = 2
    · subst hh
      go_enter Ybad.func25, Ybad.ntmps25
      go_wp2_with fail
      refine (pop_calls B mb o cb found part n len 2 rfl hn w h).mono ?_
      rintro e w1 ⟨rfl, len', h'⟩
      have k7' := h'.c7
      have z7' := h'.fz 7
      go_wp2_with fail
      refine h'.put.mono ?_
      rintro e w2 ⟨rfl, h2⟩
      go_wp2_with fail
      go_end0
      exact ⟨rfl, h2⟩
    · have hb2 : (held == 2) = false := by simp [hh]
      go_enter Ybad.func25, Ybad.ntmps25
      go_wp2_with fail
      refine h.put.mono ?_
      rintro e w2 ⟨rfl, h2⟩
      go_wp2_with fail
      go_end0
      exact ⟨rfl, h2⟩

set_option maxHeartbeats 1000000 in
theorem live_calls (mb : Nat) (w : World) (k11 : w.cell? ⟨mb, 11, none⟩ = some (.bool false)) :
    Calls Ybad.prog 24 #[.pointer (some ⟨mb, 5, none⟩)] w fun e w' => e = .returned (.slice (some ⟨mb, 5, none⟩) 1 2) ∧ w' = w := by
  go_enter Ybad.func24, Ybad.ntmps24
  go_wp2_with fail
  go_ret
  exact ⟨rfl, rfl⟩

set_option maxHeartbeats 1000000 in
theorem rend_calls (B : World) (mb o cb : Nat) (found : ByteArray) (part : Int) (n len : Nat) (held : Int) (hn : n ≤ 5000) (w : World) (h : Fo B mb o cb found part n len held w) :
    Calls Ybad.prog 18 #[.pointer (some ⟨mb, 5, none⟩)] w fun e w' => e = .returned (.tuple #[.slice (some ⟨mb, 5, none⟩) 1 2, .nilIface]) ∧ En B mb o cb found part w' := by
  obtain ⟨k11, k12, k4⟩ := h.cm
  go_enter Ybad.func18, Ybad.ntmps18
  go_wp2_with fail
  refine (live_calls mb w k11).mono ?_
  rintro e w1 ⟨rfl, rfl⟩
  go_wp2_with fail
  go_loopw [16] (fun i wr => (i = .int .i64 0 ∧ wr = w1) ∨ (i = .int .i64 1 ∧ En B mb o cb found part wr)) (fun i _ => (1 - intOf i).toNat)
  case atStart => exact .inl ⟨rfl, rfl⟩
  case round =>
    rcases hrel with ⟨rfl, rfl⟩ | ⟨rfl, hE⟩
    · go_wp2_with fail
      refine (fend_calls B mb o cb found part n len held hn _ h).mono ?_
      rintro e w2 ⟨rfl, h2⟩
      go_wp2_with fail
      exact ⟨.inr ⟨rfl, h2⟩, by simp [intOf]⟩
    · go_wp2_with fail
      go_ret2
      exact ⟨rfl, hE⟩
end Go.Proofs.YbulkdsiDoor
