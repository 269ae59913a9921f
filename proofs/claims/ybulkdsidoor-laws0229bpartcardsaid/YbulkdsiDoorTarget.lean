/-
  targetByte, walked.
-/
import Derived.Test.YbulkdsiDoorStep
namespace Go.Proofs.YbulkdsiDoor
open Go.RowKit
set_option linter.unusedVariables false

/-- m at the part s of its target; f: what is found. -/
def St (B : World) (mb cb : Nat) (s : Int) (f : ByteArray) (k : Nat) (w : World) : Prop :=
  (0 ≤ s ∧ s ≤ 4 ∧ f = ⟨#[]⟩ ∧ Mb B mb (m0 cb ⟨#[]⟩ s) w) ∨
  (s = 5 ∧ f = ⟨#[]⟩ ∧ ∃ o n len held, n ≤ k ∧ Fo B mb o cb ⟨#[]⟩ 5 n len held w) ∨
  (s = 6 ∧ Pa B mb f w)

/-- What is found behind a byte. -/
def foundP (e : Bool) (f : ByteArray) : ByteArray := match e with
  | true => allS
  | false => f

theorem InT.ne {c : Int} (h : InT c) : ¬ c = 37 := by rcases h with rfl | rfl | rfl | rfl | rfl | rfl | rfl | rfl | rfl | rfl | rfl | rfl <;> decide

set_option maxHeartbeats 1000000 in
theorem tb5 {B : World} {mb cb pb kb : Nat} (hB : Bs B mb cb pb kb) (o n len : Nat) (held c : Int) (hn : n ≤ 5000) (hc : InT c) (w : World) (h : Fo B mb o cb ⟨#[]⟩ 5 n len held w) :
    Calls Ybad.prog 4 #[.pointer (some ⟨mb, 0, none⟩), .int .u8 c] w fun e w' => e = .returned .nilIface ∧ St B mb cb (stepP 5 c).1 (foundP (stepP 5 c).2 ⟨#[]⟩) (n + 1) w' := by
  obtain ⟨k11, k12, k4⟩ := h.cm
  by_cases h63 : c = 63
  · subst h63
    go_enter Ybad.func4, Ybad.ntmps4
    go_wp2_with fail
    refine (pend_calls hB o ⟨#[]⟩ 5 n len held hn w h).mono ?_
    rintro e w1 ⟨rfl, h1⟩
    go_wp2_with fail
    go_ret
    exact ⟨rfl, .inr (.inr ⟨rfl, h1⟩)⟩
  · have hb : (c == 63) = false := by simp [h63]
    have hst : stepP 5 c = (5, false) := by simp [stepP, h63]
    rw [hst]
    go_enter Ybad.func4, Ybad.ntmps4
    go_wp2_with fail
    refine (byte_calls B mb o cb ⟨#[]⟩ 5 n len held c hn hc.ne w h).mono ?_
    rintro e w1 ⟨rfl, len', held', h1⟩
    go_wp2_with fail
    go_ret
    exact ⟨rfl, .inr (.inl ⟨rfl, rfl, o, n + 1, len', held', Nat.le_refl _, h1⟩)⟩

set_option maxHeartbeats 1000000 in
theorem tb3 {B : World} {mb cb pb kb : Nat} (hB : Bs B mb cb pb kb) (c : Int) (hc : InT c) (w : World) (h : Mb B mb (m0 cb ⟨#[]⟩ 3) w) :
    Calls Ybad.prog 4 #[.pointer (some ⟨mb, 0, none⟩), .int .u8 c] w fun e w' => e = .returned .nilIface ∧ St B mb cb (stepP 3 c).1 (foundP (stepP 3 c).2 ⟨#[]⟩) 2 w' := by
  have k4 : w.cell? ⟨mb, 4, none⟩ = some (.int .u8 3) := h.cm 4
  have z4 := h.fm 4
  by_cases h47 : c = 47
  · subst h47
    go_enter Ybad.func4, Ybad.ntmps4
    go_wp2_with fail
    go_ret
    exact ⟨rfl, .inl ⟨by decide, by decide, rfl, h.setm 4 (.int .u8 4)⟩⟩
  · have hb : (c == 47) = false := by simp [h47]
    have hst : stepP 3 c = stepP 5 c := by simp [stepP, h47]
    rw [hst]
    go_enter Ybad.func4, Ybad.ntmps4
    go_wp2_with fail
    refine (pstart_calls B mb cb ⟨#[]⟩ 3 w h hB.hcb hB.c2).mono ?_
    rintro e w1 ⟨rfl, o, h1⟩
    go_wp2_with fail
    refine (byte_calls B mb o cb ⟨#[]⟩ 5 0 0 0 47 (by omega) (by decide) w1 h1).mono ?_
    rintro e w2 ⟨rfl, len, held, h2⟩
    go_wp2_with fail
    refine (tb5 hB o 1 len held c (by omega) hc w2 h2).mono ?_
    rintro e w3 ⟨rfl, h3⟩
    go_wp2_with fail
    go_ret
    exact ⟨rfl, h3⟩

set_option maxHeartbeats 1000000 in
theorem tb4 {B : World} {mb cb pb kb : Nat} (hB : Bs B mb cb pb kb) (c : Int) (hc : InT c) (w : World) (h : Mb B mb (m0 cb ⟨#[]⟩ 4) w) :
    Calls Ybad.prog 4 #[.pointer (some ⟨mb, 0, none⟩), .int .u8 c] w fun e w' => e = .returned .nilIface ∧ St B mb cb (stepP 4 c).1 (foundP (stepP 4 c).2 ⟨#[]⟩) 2 w' := by
  have k4 : w.cell? ⟨mb, 4, none⟩ = some (.int .u8 4) := h.cm 4
  by_cases h47 : c = 47
  · subst h47
    go_enter Ybad.func4, Ybad.ntmps4
    go_wp2_with fail
    refine (pstart_calls B mb cb ⟨#[]⟩ 4 w h hB.hcb hB.c2).mono ?_
    rintro e w1 ⟨rfl, o, h1⟩
    go_wp2_with fail
    refine (byte_calls B mb o cb ⟨#[]⟩ 5 0 0 0 47 (by omega) (by decide) w1 h1).mono ?_
    rintro e w2 ⟨rfl, len, held, h2⟩
    go_wp2_with fail
    go_ret
    exact ⟨rfl, .inr (.inl ⟨rfl, rfl, o, 1, len, held, by omega, h2⟩)⟩
  · have hb : (c == 47) = false := by simp [h47]
    by_cases h63 : c = 63
    · subst h63
      go_enter Ybad.func4, Ybad.ntmps4
      go_wp2_with fail
      refine (empty_calls hB ⟨#[]⟩ 4 w h).mono ?_
      rintro e w1 ⟨rfl, h1⟩
      go_wp2_with fail
      go_ret
      exact ⟨rfl, .inr (.inr ⟨rfl, h1⟩)⟩
    · have hb2 : (c == 63) = false := by simp [h63]
      have hst : stepP 4 c = (4, false) := by simp [stepP, h63, h47]
      rw [hst]
      go_enter Ybad.func4, Ybad.ntmps4
      go_wp2_with fail
      go_ret
      exact ⟨rfl, .inl ⟨by decide, by decide, rfl, h⟩⟩

set_option maxHeartbeats 1000000 in
theorem tb2 {B : World} {mb cb : Nat} (c : Int) (hc : InT c) (w : World) (h : Mb B mb (m0 cb ⟨#[]⟩ 2) w) :
    Calls Ybad.prog 4 #[.pointer (some ⟨mb, 0, none⟩), .int .u8 c] w fun e w' => e = .returned .nilIface ∧ St B mb cb (stepP 2 c).1 (foundP (stepP 2 c).2 ⟨#[]⟩) 2 w' := by
  have k4 : w.cell? ⟨mb, 4, none⟩ = some (.int .u8 2) := h.cm 4
  have z4 := h.fm 4
  by_cases h47 : c = 47
  · subst h47
    go_enter Ybad.func4, Ybad.ntmps4
    go_wp2_with fail
    go_ret
    exact ⟨rfl, .inl ⟨by decide, by decide, rfl, h.setm 4 (.int .u8 3)⟩⟩
  · have hb : (c != 47) = true := by simp [h47]
    have hst : stepP 2 c = (6, false) := by simp [stepP, h47]
    rw [hst]
    go_enter Ybad.func4, Ybad.ntmps4
    go_wp2_with fail
    go_ret
    exact ⟨rfl, .inr (.inr ⟨rfl, _, (h.setm 4 (.int .u8 3)).setm 4 (.int .u8 6), rfl, rfl, rfl⟩)⟩

set_option maxHeartbeats 1000000 in
theorem tb6 {B : World} {mb cb : Nat} (f : ByteArray) (c : Int) (hc : InT c) (w : World) (h : Pa B mb f w) :
    Calls Ybad.prog 4 #[.pointer (some ⟨mb, 0, none⟩), .int .u8 c] w fun e w' => e = .returned .nilIface ∧ St B mb cb 6 f 2 w' := by
  obtain ⟨C, hM, c2, c3, c4⟩ := h
  have k4 : w.cell? ⟨mb, 4, none⟩ = some (.int .u8 6) := (hM.cm 4).trans c4
  go_enter Ybad.func4, Ybad.ntmps4
  go_wp2_with fail
  go_ret
  exact ⟨rfl, .inr (.inr ⟨rfl, C, hM, c2, c3, c4⟩)⟩

set_option maxHeartbeats 4000000 in
theorem tb0 {B : World} {mb cb pb kb : Nat} (hB : Bs B mb cb pb kb) (c : Int) (hc : InT c) (w : World) (h : Mb B mb (m0 cb ⟨#[]⟩ 0) w) :
    Calls Ybad.prog 4 #[.pointer (some ⟨mb, 0, none⟩), .int .u8 c] w fun e w' => e = .returned .nilIface ∧ St B mb cb (stepP 0 c).1 (foundP (stepP 0 c).2 ⟨#[]⟩) 2 w' := by
  have k4 : w.cell? ⟨mb, 4, none⟩ = some (.int .u8 0) := h.cm 4
  have z4 := h.fm 4
  by_cases h47 : c = 47
  · subst h47
    go_enter Ybad.func4, Ybad.ntmps4
    go_wp2_with fail
    refine (pstart_calls B mb cb ⟨#[]⟩ 0 w h hB.hcb hB.c2).mono ?_
    rintro e w1 ⟨rfl, o, h1⟩
    go_wp2_with fail
    refine (byte_calls B mb o cb ⟨#[]⟩ 5 0 0 0 47 (by omega) (by decide) w1 h1).mono ?_
    rintro e w2 ⟨rfl, len, held, h2⟩
    go_wp2_with fail
    go_ret
    exact ⟨rfl, .inr (.inl ⟨rfl, rfl, o, 1, len, held, by omega, h2⟩)⟩
  · have hb : (c == 47) = false := by simp [h47]
    by_cases hl : letterP c = true
    · have hst : stepP 0 c = (1, false) := by simp [stepP, h47, hl]
      rw [hst]
      go_enter Ybad.func4, Ybad.ntmps4
      go_wp2_with fail
      refine (isLetter_of c true hl hc w).mono ?_
      rintro e w1 ⟨rfl, rfl⟩
      go_wp2_with fail
      go_ret
      exact ⟨rfl, .inl ⟨by decide, by decide, rfl, h.setm 4 (.int .u8 1)⟩⟩
    · have hl' : letterP c = false := by simpa using hl
      have hst : stepP 0 c = (6, false) := by simp [stepP, h47, hl']
      rw [hst]
      go_enter Ybad.func4, Ybad.ntmps4
      go_wp2_with fail
      refine (isLetter_of c false hl' hc w).mono ?_
      rintro e w1 ⟨rfl, rfl⟩
      go_wp2_with fail
      go_ret
      exact ⟨rfl, .inr (.inr ⟨rfl, _, h.setm 4 (.int .u8 6), rfl, rfl, rfl⟩)⟩

set_option maxHeartbeats 4000000 in
theorem tb1 {B : World} {mb cb : Nat} (c : Int) (hc : InT c) (w : World) (h : Mb B mb (m0 cb ⟨#[]⟩ 1) w) :
    Calls Ybad.prog 4 #[.pointer (some ⟨mb, 0, none⟩), .int .u8 c] w fun e w' => e = .returned .nilIface ∧ St B mb cb (stepP 1 c).1 (foundP (stepP 1 c).2 ⟨#[]⟩) 2 w' := by
  have k4 : w.cell? ⟨mb, 4, none⟩ = some (.int .u8 1) := h.cm 4
  have z4 := h.fm 4
  have hc' := hc
  have hl := isLetter_calls c hc w
  have hd := isDigit_calls c hc w
  rcases hc with rfl | rfl | rfl | rfl | rfl | rfl | rfl | rfl | rfl | rfl | rfl | rfl
  all_goals
    generalize hb : letterP _ = b at hl
    have hb' : b = letterP _ := hb.symm
    simp only [letterP, Int.reduceLE, decide_true, decide_false, Bool.and_true, Bool.and_false, Bool.or_false, Bool.or_true] at hb'
    subst hb'
    generalize hg : digitP _ = g at hd
    have hg' : g = digitP _ := hg.symm
    simp only [digitP, Int.reduceLE, decide_true, decide_false, Bool.and_true, Bool.and_false] at hg'
    subst hg'
    clear hb hg
    go_enter Ybad.func4, Ybad.ntmps4
    go_wp2_with (first | (go_at_call 8; refine hl.mono ?_; rintro e w1 ⟨rfl, rfl⟩) | (go_at_call 9; refine hd.mono ?_; rintro e w1 ⟨rfl, rfl⟩))
    go_ret
    first
    | exact ⟨rfl, .inl ⟨by decide, by decide, rfl, h⟩⟩
    | exact ⟨rfl, .inl ⟨by decide, by decide, rfl, h.setm 4 (.int .u8 2)⟩⟩
    | exact ⟨rfl, .inr (.inr ⟨rfl, _, h.setm 4 (.int .u8 6), rfl, rfl, rfl⟩)⟩

/-- targetByte, at whatever part. -/
theorem target_calls {B : World} {mb cb pb kb : Nat} (hB : Bs B mb cb pb kb) (s : Int) (f : ByteArray) (k : Nat) (hk : k ≤ 5000) (c : Int) (hc : InT c) (w : World) (h : St B mb cb s f k w) :
    Calls Ybad.prog 4 #[.pointer (some ⟨mb, 0, none⟩), .int .u8 c] w fun e w' => e = .returned .nilIface ∧ St B mb cb (stepP s c).1 (foundP (stepP s c).2 f) (k + 2) w' := by
  have up : ∀ (s : Int) (f : ByteArray) (k m : Nat) (w : World), k ≤ m → St B mb cb s f k w → St B mb cb s f m w := by
    rintro s f k m w hm (h | ⟨h1, h2, o, n, len, held, hn, h⟩ | h)
    · exact .inl h
    · exact .inr (.inl ⟨h1, h2, o, n, len, held, by omega, h⟩)
    · exact .inr (.inr h)
  rcases h with ⟨h0, h4, rfl, h⟩ | ⟨rfl, rfl, o, n, len, held, hn, h⟩ | ⟨rfl, h⟩
  · obtain rfl | rfl | rfl | rfl | rfl : s = 0 ∨ s = 1 ∨ s = 2 ∨ s = 3 ∨ s = 4 := by omega
    · exact (tb0 hB c hc w h).mono fun e w' ⟨he, hs⟩ => ⟨he, up _ _ _ _ _ (by omega) hs⟩
    · exact (tb1 c hc w h).mono fun e w' ⟨he, hs⟩ => ⟨he, up _ _ _ _ _ (by omega) hs⟩
    · exact (tb2 c hc w h).mono fun e w' ⟨he, hs⟩ => ⟨he, up _ _ _ _ _ (by omega) hs⟩
    · exact (tb3 hB c hc w h).mono fun e w' ⟨he, hs⟩ => ⟨he, up _ _ _ _ _ (by omega) hs⟩
    · exact (tb4 hB c hc w h).mono fun e w' ⟨he, hs⟩ => ⟨he, up _ _ _ _ _ (by omega) hs⟩
  · exact (tb5 hB o n len held c (by omega) hc w h).mono fun e w' ⟨he, hs⟩ => ⟨he, up _ _ _ _ _ (by omega) hs⟩
  · exact (tb6 (cb := cb) f c hc w h).mono fun e w' ⟨he, hs⟩ => ⟨he, up _ _ _ _ _ (by omega) hs⟩
end Go.Proofs.YbulkdsiDoor
