/-
  slash, segmentByte, the form's and the reader's pathByte, walked.
-/
import Derived.Test.YbulkdsiDoorForm
namespace Go.Proofs.YbulkdsiDoor
open Go.RowKit
set_option linter.unusedVariables false

/-- The held count is set. -/
theorem Fo.seth {B : World} {mb o cb : Nat} {found : ByteArray} {part : Int} {n len : Nat} {held : Int} {w : World} (h : Fo B mb o cb found part n len held w) (k : Int) (h0 : -1 ≤ k) (h1 : k ≤ 2) (h2 : k = -1 → len = 2) :
    Fo B mb o cb found part n len k (w.setCell ⟨mb, 7, none⟩ (.int .i8 k)) := by
  obtain ⟨over, x, y, hS, a, b, c⟩ := h.ex
  exact ⟨⟨over, x, y, hS.setm 7 (.int .i8 k), a, b, c⟩, h0, h1, h2, h.len2⟩
theorem Fo.c7 {B : World} {mb o cb : Nat} {found : ByteArray} {part : Int} {n len : Nat} {held : Int} {w : World} (h : Fo B mb o cb found part n len held w) : w.cell? ⟨mb, 7, none⟩ = some (.int .i8 held) := by
  obtain ⟨over, x, y, hS, a, b, c⟩ := h.ex
  exact hS.cm 7
theorem Fo.fz {B : World} {mb o cb : Nat} {found : ByteArray} {part : Int} {n len : Nat} {held : Int} {w : World} (h : Fo B mb o cb found part n len held w) (j : Nat) : w.frozen? ⟨mb, j, none⟩ = false := by
  obtain ⟨over, x, y, hS, a, b, c⟩ := h.ex
  exact hS.fm j
theorem Fo.c5 {B : World} {mb o cb : Nat} {found : ByteArray} {part : Int} {n len : Nat} {held : Int} {w : World} (h : Fo B mb o cb found part n len held w) : w.cell? ⟨mb, 5, none⟩ = some (.slice (some ⟨o, 0, none⟩) len 2) := by
  obtain ⟨over, x, y, hS, a, b, c⟩ := h.ex
  exact hS.cm 5
theorem Fo.up {B : World} {mb o cb : Nat} {found : ByteArray} {part : Int} {n len : Nat} {held : Int} {w : World} (h : Fo B mb o cb found part n len held w) (m : Nat) (hm : n ≤ m) : Fo B mb o cb found part m len held w := by
  obtain ⟨over, x, y, hS, a, b, c⟩ := h.ex
  exact ⟨⟨over, x, y, hS, a, by omega, c⟩, h.hlo, h.hhi, h.wr, h.len2⟩

set_option maxHeartbeats 400000 in
theorem slash_calls (B : World) (mb o cb : Nat) (found : ByteArray) (part : Int) (n len : Nat) (held : Int) (hn : n ≤ 5000) (w : World) (h : Fo B mb o cb found part n len held w) :
    Calls Ybad.prog 21 #[.pointer (some ⟨mb, 5, none⟩)] w fun e w' => e = .returned (.tuple #[]) ∧ ∃ len', Fo B mb o cb found part n len' 0 w' := by
  have k7 := h.c7
  have z7 := h.fz 7
  by_cases hh : held = 2
  · subst hh
    go_enter Ybad.func21, Ybad.ntmps21
    go_wp2_with fail
    refine (pop_calls B mb o cb found part n len 2 rfl hn w h).mono ?_
    rintro e w1 ⟨rfl, len', h'⟩
    have k7' := h'.c7
    have z7' := h'.fz 7
    go_wp2_with fail
    go_end0
    exact ⟨rfl, len', h'.seth 0 (by omega) (by omega) (by omega)⟩
  · have hb : (held == 2) = false := by simp [hh]
    go_enter Ybad.func21, Ybad.ntmps21
    go_wp2_with fail
    go_end0
    exact ⟨rfl, len, h.seth 0 (by omega) (by omega) (by omega)⟩

/-! ### segmentByte -/
set_option maxHeartbeats 400000 in
theorem seg_written (B : World) (mb o cb : Nat) (found : ByteArray) (part over x y c : Int) (w : World) (h : Sw B mb o (mc cb found part (outV o 2) over (-1)) (bytes2 x y) w) :
    Calls Ybad.prog 22 #[.pointer (some ⟨mb, 5, none⟩), .int .u8 c] w fun e w' => e = .returned (.tuple #[]) ∧ Sw B mb o (mc cb found part (outV o 2) over (-1)) (bytes2 x y) w' := by
  have k7 : w.cell? ⟨mb, 7, none⟩ = some (.int .i8 (-1)) := h.cm 7
  go_enter Ybad.func22, Ybad.ntmps22
  go_wp2_with fail
  refine (put_full B mb o cb found part over (-1) x y c w h).mono ?_
  rintro e w1 ⟨rfl, h1⟩
  go_wp2_with fail
  go_end0
  exact ⟨rfl, h1⟩

set_option maxHeartbeats 400000 in
theorem seg_dot (B : World) (mb o cb len : Nat) (found : ByteArray) (part over held x y : Int) (h0 : 0 ≤ held) (h1 : held ≤ 1) (w : World) (h : Sw B mb o (mc cb found part (outV o len) over held) (bytes2 x y) w) :
    Calls Ybad.prog 22 #[.pointer (some ⟨mb, 5, none⟩), .int .u8 46] w fun e w' => e = .returned (.tuple #[]) ∧ Sw B mb o (mc cb found part (outV o len) over (held + 1)) (bytes2 x y) w' := by
  have k7 : w.cell? ⟨mb, 7, none⟩ = some (.int .i8 held) := h.cm 7
  have z7 := h.fm 7
  have hb : (held != -1) = true := by simp; omega
  have hd : decide (held < 2) = true := by simp; omega
  go_enter Ybad.func22, Ybad.ntmps22
  go_wp2_with fail
  exact bodyPost_ret (v := .tuple #[]) (by simp [results, Ybad.results22, go_sem]) rfl ⟨rfl, h.setm 7 (.int .i8 (held + 1))⟩

set_option maxHeartbeats 400000 in
theorem seg_full (B : World) (mb o cb : Nat) (found : ByteArray) (part over held y c : Int) (h0 : 0 ≤ held) (h1 : held ≤ 2) (hc : ¬ (c = 46 ∧ held < 2)) (o0 : 0 ≤ over) (o1 : over ≤ 10000) (w : World) (h : Sw B mb o (mc cb found part (outV o 2) over held) (bytes2 47 y) w) :
    Calls Ybad.prog 22 #[.pointer (some ⟨mb, 5, none⟩), .int .u8 c] w fun e w' => e = .returned (.tuple #[]) ∧ Sw B mb o (mc cb found part (outV o 2) (over + 1) (-1)) (bytes2 47 y) w' := by
  have k7 : w.cell? ⟨mb, 7, none⟩ = some (.int .i8 held) := h.cm 7
  have k5 : w.cell? ⟨mb, 5, none⟩ = some (.slice (some ⟨o, 0, none⟩) 2 2) := h.cm 5
  have k6 : w.cell? ⟨mb, 6, none⟩ = some (.int .i64 over) := h.cm 6
  have z6 := h.fm 6
  have hb : (held != -1) = true := by simp; omega
  by_cases hc46 : c = 46
  case' pos =>
    subst hc46
    have hd : decide (held < 2) = false := by simp; omega
    go_enter Ybad.func22, Ybad.ntmps22
    go_wp2_with fail
  case' neg =>
    have hcb : (c == 46) = false := by simp [hc46]
    go_enter Ybad.func22, Ybad.ntmps22
    go_wp2_with fail
  all_goals
    go_quiet (fail)
    have hX := h.drewN nq
    generalize w.drewN nq = X at hX ⊢
    clear h k7 k5 k6 z6
    have k6 : X.cell? ⟨mb, 6, none⟩ = some (.int .i64 over) := hX.cm 6
    have z6 := hX.fm 6
    go_wp2_with fail
    refine (put_full B mb o cb found part (over + 1) held 47 y 47 _ (hX.setm 6 (.int .i64 (over + 1)))).mono ?_
    rintro e w1 ⟨rfl, h1'⟩
    have k7 : w1.cell? ⟨mb, 7, none⟩ = some (.int .i8 held) := h1'.cm 7
    clear hX k6 z6
    go_wp2_with fail
    go_loopw [49] (fun i wr => ∃ k : Int, 0 ≤ k ∧ k ≤ held ∧ i = .int .i8 k ∧ Sw B mb o (mc cb found part (outV o 2) (over + 1) held) (bytes2 47 y) wr) (fun i _ => (held - intOf i).toNat)
    case atStart => exact ⟨0, by omega, by omega, rfl, h1'⟩
    case round =>
      obtain ⟨k, k0, k1, rfl, hS⟩ := hrel
      by_cases hlt : k < held
      · go_wp2_with fail
        refine (put_full B mb o cb found part (over + 1) held 47 y 46 _ hS).mono ?_
        rintro e w2 ⟨rfl, h2⟩
        go_wp2_with fail
        exact ⟨⟨k + 1, by omega, by omega, rfl, h2⟩, by simp [intOf]; omega⟩
      · have z7 := hS.fm 7
        have c7 : wr.cell? ⟨mb, 7, none⟩ = some (.int .i8 held) := hS.cm 7
        go_wp2_with fail
        refine (put_full B mb o cb found part (over + 1) (-1) 47 y _ _ (hS.setm 7 (.int .i8 (-1)))).mono ?_
        rintro e w2 ⟨rfl, h2⟩
        go_wp2_with fail
        go_end0
        exact ⟨rfl, h2⟩

set_option maxHeartbeats 400000 in
theorem seg_empty (B : World) (mb o cb : Nat) (found : ByteArray) (part over held x y c : Int) (h0 : 0 ≤ held) (h1 : held ≤ 2) (hc : ¬ (c = 46 ∧ held < 2)) (hc47 : ¬ c = 47) (w : World) (h : Sw B mb o (mc cb found part (outV o 0) over held) (bytes2 x y) w) :
    Calls Ybad.prog 22 #[.pointer (some ⟨mb, 5, none⟩), .int .u8 c] w fun e w' => e = .returned (.tuple #[]) ∧ ∃ y', ¬ y' = 47 ∧ Sw B mb o (mc cb found part (outV o 2) over (-1)) (bytes2 47 y') w' := by
  have k7 : w.cell? ⟨mb, 7, none⟩ = some (.int .i8 held) := h.cm 7
  have k5 : w.cell? ⟨mb, 5, none⟩ = some (.slice (some ⟨o, 0, none⟩) 0 2) := h.cm 5
  have hb : (held != -1) = true := by simp; omega
  by_cases hc46 : c = 46
  case' pos =>
    subst hc46
    have hd : decide (held < 2) = false := by simp; omega
    go_enter Ybad.func22, Ybad.ntmps22
    go_wp2_with fail
  case' neg =>
    have hcb : (c == 46) = false := by simp [hc46]
    go_enter Ybad.func22, Ybad.ntmps22
    go_wp2_with fail
  all_goals
    go_quiet (fail)
    have hX := h.drewN nq
    generalize w.drewN nq = X at hX ⊢
    clear h k7 k5
    go_wp2_with fail
    refine (put_room B mb o cb found part over held x y 47 _ hX).mono ?_
    rintro e w1 ⟨rfl, h1'⟩
    have k7 : w1.cell? ⟨mb, 7, none⟩ = some (.int .i8 held) := h1'.cm 7
    clear hX
    go_wp2_with fail
    go_loopw [49] (fun i wr => ∃ k : Int, 0 ≤ k ∧ k ≤ held ∧ i = .int .i8 k ∧ ((k = 0 ∧ Sw B mb o (mc cb found part (outV o 1) over held) (bytes2 47 y) wr) ∨ (0 < k ∧ Sw B mb o (mc cb found part (outV o 2) over held) (bytes2 47 46) wr))) (fun i _ => (held - intOf i).toNat)
    case atStart => exact ⟨0, by omega, by omega, rfl, .inl ⟨rfl, h1'⟩⟩
    case round =>
      obtain ⟨k, k0, k1, rfl, ⟨rfl, hS⟩ | ⟨hk, hS⟩⟩ := hrel
      · by_cases hlt : 0 < held
        · go_wp2_with fail
          refine (put_one B mb o cb found part over held 47 y 46 _ hS).mono ?_
          rintro e w2 ⟨rfl, h2⟩
          go_wp2_with fail
          exact ⟨⟨1, by omega, by omega, rfl, .inr ⟨by omega, h2⟩⟩, by simp [intOf]; omega⟩
        · have z7 := hS.fm 7
          have c7 : wr.cell? ⟨mb, 7, none⟩ = some (.int .i8 held) := hS.cm 7
          go_wp2_with fail
          refine (put_one B mb o cb found part over (-1) 47 y _ _ (hS.setm 7 (.int .i8 (-1)))).mono ?_
          rintro e w2 ⟨rfl, h2⟩
          go_wp2_with fail
          go_end0
          exact ⟨rfl, _, by assumption, h2⟩
      · by_cases hlt : k < held
        · go_wp2_with fail
          refine (put_full B mb o cb found part over held 47 46 46 _ hS).mono ?_
          rintro e w2 ⟨rfl, h2⟩
          go_wp2_with fail
          exact ⟨⟨k + 1, by omega, by omega, rfl, .inr ⟨by omega, h2⟩⟩, by simp [intOf]; omega⟩
        · have z7 := hS.fm 7
          have c7 : wr.cell? ⟨mb, 7, none⟩ = some (.int .i8 held) := hS.cm 7
          go_wp2_with fail
          refine (put_full B mb o cb found part over (-1) 47 46 _ _ (hS.setm 7 (.int .i8 (-1)))).mono ?_
          rintro e w2 ⟨rfl, h2⟩
          go_wp2_with fail
          go_end0
          exact ⟨rfl, 46, by decide, h2⟩

/-- segmentByte, whatever the form. -/
theorem seg_calls (B : World) (mb o cb : Nat) (found : ByteArray) (part : Int) (n len : Nat) (held c : Int) (hn : n ≤ 5000) (hc47 : ¬ c = 47) (w : World) (h : Fo B mb o cb found part n len held w) :
    Calls Ybad.prog 22 #[.pointer (some ⟨mb, 5, none⟩), .int .u8 c] w fun e w' => e = .returned (.tuple #[]) ∧ ∃ len' held', Fo B mb o cb found part (n + 1) len' held' w' := by
  obtain ⟨over, x, y, hS, a, b, t⟩ := h.ex
  have hlo := h.hlo
  have hhi := h.hhi
  by_cases hw : held = -1
  · obtain rfl := h.wr hw
    subst hw
    exact (seg_written B mb o cb found part over x y c w hS).mono fun e w' ⟨he, k⟩ => ⟨he, 2, -1, ⟨over, x, y, k, a, by omega, t⟩, by omega, by omega, fun _ => rfl, .inr rfl⟩
  · by_cases hd : c = 46 ∧ held < 2
    · obtain ⟨rfl, hd⟩ := hd
      exact (seg_dot B mb o cb len found part over held x y (by omega) (by omega) w hS).mono fun e w' ⟨he, k⟩ => ⟨he, len, held + 1, ⟨over, x, y, k, a, by omega, t⟩, by omega, by omega, fun e => by omega, h.len2⟩
    · rcases t with rfl | ⟨rfl, rfl, hy⟩
      · exact (seg_empty B mb o cb found part over held x y c (by omega) hhi hd hc47 w hS).mono fun e w' ⟨he, y', hy', k⟩ => ⟨he, 2, -1, ⟨over, 47, y', k, a, by omega, .inr ⟨rfl, rfl, hy'⟩⟩, by omega, by omega, fun _ => rfl, .inr rfl⟩
      · exact (seg_full B mb o cb found part over held y c (by omega) hhi hd a (by omega) w hS).mono fun e w' ⟨he, k⟩ => ⟨he, 2, -1, ⟨over + 1, 47, y, k, by omega, by omega, .inr ⟨rfl, rfl, hy⟩⟩, by omega, by omega, fun _ => rfl, .inr rfl⟩

set_option maxHeartbeats 400000 in
/-- The form's pathByte. -/
theorem formByte_calls (B : World) (mb o cb : Nat) (found : ByteArray) (part : Int) (n len : Nat) (held c : Int) (hn : n ≤ 5000) (w : World) (h : Fo B mb o cb found part n len held w) :
    Calls Ybad.prog 14 #[.pointer (some ⟨mb, 5, none⟩), .int .u8 c] w fun e w' => e = .returned (.tuple #[]) ∧ ∃ len' held', Fo B mb o cb found part (n + 1) len' held' w' := by
  by_cases hc : c = 47
  · subst hc
    go_enter Ybad.func14, Ybad.ntmps14
    go_wp2_with fail
    refine (slash_calls B mb o cb found part n len held hn w h).mono ?_
    rintro e w1 ⟨rfl, len', h'⟩
    go_wp2_with fail
    go_end0
    exact ⟨rfl, len', 0, h'.up (n + 1) (by omega)⟩
  · have hb : (c == 47) = false := by simp [hc]
    go_enter Ybad.func14, Ybad.ntmps14
    go_wp2_with fail
    refine (seg_calls B mb o cb found part n len held c hn hc w h).mono ?_
    rintro e w1 ⟨rfl, len', held', h'⟩
    go_wp2_with fail
    go_end0
    exact ⟨rfl, len', held', h'⟩

theorem Fo.cm {B : World} {mb o cb : Nat} {found : ByteArray} {part : Int} {n len : Nat} {held : Int} {w : World} (h : Fo B mb o cb found part n len held w) :
    w.cell? ⟨mb, 11, none⟩ = some (.bool false) ∧ w.cell? ⟨mb, 12, none⟩ = some (.int .u8 0) ∧ w.cell? ⟨mb, 4, none⟩ = some (.int .u8 part) := by
  obtain ⟨over, x, y, hS, a, b, c⟩ := h.ex
  exact ⟨hS.cm 11, hS.cm 12, hS.cm 4⟩

set_option maxHeartbeats 400000 in
/-- The reader's pathByte: no escape, one form. -/
theorem byte_calls (B : World) (mb o cb : Nat) (found : ByteArray) (part : Int) (n len : Nat) (held c : Int) (hn : n ≤ 5000) (hc : ¬ c = 37) (w : World) (h : Fo B mb o cb found part n len held w) :
    Calls Ybad.prog 7 #[.pointer (some ⟨mb, 5, none⟩), .int .u8 c] w fun e w' => e = .returned .nilIface ∧ ∃ len' held', Fo B mb o cb found part (n + 1) len' held' w' := by
  have hb : (c == 37) = false := by simp [hc]
  obtain ⟨k11, k12, k4⟩ := h.cm
  go_enter Ybad.func7, Ybad.ntmps7
  go_wp2_with fail
  refine (formByte_calls B mb o cb found part n len held c hn w h).mono ?_
  rintro e w1 ⟨rfl, len', held', h'⟩
  obtain ⟨j11, j12, j4⟩ := h'.cm
  go_wp2_with fail
  go_ret
  exact ⟨rfl, len', held', h'⟩
end Go.Proofs.YbulkdsiDoor
