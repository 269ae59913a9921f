/-
  parseClock, Clock.at and Clock.Moment, at a text HH:MM:00.000.
-/
import Derived.Test.YbulkdpqFmtField
namespace Go.Proofs.YbulkdpqFmt
open Go.RowKit
set_option linter.unusedVariables false

/-- Both fields are digits and in their range. -/
def Good (u0 u1 : ByteArray) : Prop := fieldOk (fieldOk true u0.data.toList) u1.data.toList = true ∧ fieldN u0.data.toList < 24 ∧ fieldN u1.data.toList < 60

theorem okZeros2 (o : Bool) : fieldOk o [48, 48] = o := by cases o <;> rfl
theorem okZeros3 (o : Bool) : fieldOk o [48, 48, 48] = o := by cases o <;> rfl
theorem nZeros2 : fieldN [48, 48] = 0 := rfl
theorem nZeros3 : fieldN [48, 48, 48] = 0 := rfl

/-- What one call of 'field' leaves. -/
structure After (w w' : World) (bo : Nat) (ob : Bool) : Prop where
  box : Boxed w' bo 4 (.bool ob)
  size : w.heap.size ≤ w'.heap.size
  old : ∀ c, c < w.heap.size → c ≠ bo → w'.heap[c]? = w.heap[c]?
  tape : w'.tape = w.tape
  os : w'.os = w.os
  output : w'.output = w.output
theorem After.trans {a b c : World} {bo : Nat} {o1 o2 : Bool} (h : After a b bo o1) (k : After b c bo o2) : After a c bo o2 :=
  ⟨k.box, Nat.le_trans h.size k.size, fun i hi hne => (k.old i (Nat.lt_of_lt_of_le hi h.size) hne).trans (h.old i hi hne), k.tape.trans h.tape, k.os.trans h.os, k.output.trans h.output⟩
theorem field_after (i j : Nat) (t u : ByteArray) (hu : t.extract i j = u) (hij : i ≤ j) (hj : j ≤ t.size) (hsz : u.size ≤ 3) (bt bo : Nat) (o : Bool) (w : World) (ht : Boxed w bt 9 (.string t)) (ho : Boxed w bo 4 (.bool o)) (hne : bt ≠ bo) :
    Calls Ybaf.prog 13 #[.int .i64 i, .int .i64 j, .pointer (some ⟨bt, 0, none⟩), .pointer (some ⟨bo, 0, none⟩)] w fun e w' => e = .returned (.int .i64 (fieldN u.data.toList)) ∧ After w w' bo (fieldOk o u.data.toList) ∧ Boxed w' bt 9 (.string t) :=
  (field_calls i j t u hu hij hj hsz bt bo o w ht ho hne).mono fun e w' ⟨h1, h2, h3, h4, h5, h6, h7⟩ => ⟨h1, ⟨h2, by omega, h4, h5, h6, h7⟩, (h4 bt ht.lt hne).trans ht⟩

set_option maxHeartbeats 1000000 in
theorem clock_form (t u0 u1 : ByteArray) (hsz : t.size = 12) (h2 : t[2].toNat = 58) (h5 : t[5].toNat = 58) (h8 : t[8].toNat = 46) (e0 : t.extract 0 2 = u0) (e1 : t.extract 3 5 = u1) (e2 : t.extract 6 8 = ⟨#[48, 48]⟩) (e3 : t.extract 9 12 = ⟨#[48, 48, 48]⟩)
    (hu0 : u0.size ≤ 3) (hu1 : u1.size ≤ 3) (H M : Nat) (ok : Bool) (nH : Hid (fieldN u0.data.toList = H)) (nM : Hid (fieldN u1.data.toList = M)) (nok : Hid (fieldOk (fieldOk true u0.data.toList) u1.data.toList = ok)) (w : World) :
    Calls Ybaf.prog 11 #[.string t] w fun e w' => (((ok = true ∧ H < 24 ∧ M < 60) ∧ e = .returned (.tuple #[.int .i64 ((H : Int) * 3600000000000 + (M : Int) * 60000000000), .bool true])) ∨ (¬ (ok = true ∧ H < 24 ∧ M < 60) ∧ e = .returned (.tuple #[.int .i64 0, .bool false]))) ∧ Below w.heap.size w w' := by
  have h2' : ((t[2].toNat : Int) != 58) = false := by rw [h2]; rfl
  have h5' : ((t[5].toNat : Int) != 58) = false := by rw [h5]; rfl
  have h8' : ((t[8].toNat : Int) != 46) = false := by rw [h8]; rfl
  clear h2 h5 h8
  have E0 : Hid (t.extract 0 2 = u0) := e0
  have E1 : Hid (t.extract 3 5 = u1) := e1
  have E2 : Hid (t.extract 6 8 = ⟨#[48, 48]⟩) := e2
  have E3 : Hid (t.extract 9 12 = ⟨#[48, 48, 48]⟩) := e3
  clear e0 e1 e2 e3
  go_enter Ybaf.func11, Ybaf.ntmps11
  go_wp2_with fail
  have b0 : Boxed ((w.alloc (.cells #[.string t] 9)).alloc (.cells #[.bool true] 4)) w.heap.size 9 (.string t) := (Boxed.new w 9 _).alloc _
  have b1 : Boxed ((w.alloc (.cells #[.string t] 9)).alloc (.cells #[.bool true] 4)) (w.heap.size + 1) 4 (.bool true) := by
    have h := Boxed.new (w.alloc (.cells #[.string t] 9)) 4 (.bool true); rwa [World.size_alloc] at h
  refine (field_after 0 2 t u0 E0.out (by omega) (by omega) hu0 w.heap.size (w.heap.size + 1) true _ b0 b1 (by omega)).mono ?_
  rintro e w1 ⟨rfl, a1, t1⟩
  go_wp2_with fail
  refine (field_after 3 5 t u1 E1.out (by omega) (by omega) hu1 w.heap.size (w.heap.size + 1) _ _ t1 a1.box (by omega)).mono ?_
  rintro e w2 ⟨rfl, a2, t2⟩
  go_wp2_with fail
  refine (field_after 6 8 t _ E2.out (by omega) (by omega) (by decide) w.heap.size (w.heap.size + 1) _ _ t2 a2.box (by omega)).mono ?_
  rintro e w3 ⟨rfl, a3, t3⟩
  go_wp2_with fail
  refine (field_after 9 12 t _ E3.out (by omega) (by omega) (by decide) w.heap.size (w.heap.size + 1) _ _ t3 a3.box (by omega)).mono ?_
  rintro e w4 ⟨rfl, a4, t4⟩
  have a5 := ((a1.trans a2).trans a3).trans a4
  have hb := a5.box
  rw [okZeros3, okZeros2, nok.out] at hb
  have hcb := hb.cell
  have hB : Below w.heap.size w w4 := by
    have hbb : Below w.heap.size w ((w.alloc (.cells #[.string t] 9)).alloc (.cells #[.bool true] 4)) := ((Below.refl _ w).alloc (Nat.le_refl _) _).alloc (by simp) _
    exact ⟨a5.os.trans hbb.os, a5.tape.trans hbb.tape, a5.output.trans hbb.output, Nat.le_trans hbb.size a5.size, fun c hc => (a5.old c (by have := hbb.size; omega) (by omega)).trans (hbb.block c hc)⟩
  rw [nZeros2, nZeros3]
  have hn0 := fieldN_le u0.data.toList (by rw [Array.length_toList]; exact hu0)
  have hn1 := fieldN_le u1.data.toList (by rw [Array.length_toList]; exact hu1)
  rw [nH.out] at hn0 ⊢
  rw [nM.out] at hn1 ⊢
  clear a1 a2 a3 a4 a5 t1 t2 t3 t4 hb h2' h5' h8' b0 b1 nH nM nok E0 E1 E2 E3
  cases ok with
  | false =>
    go_wp2_with fail
    go_ret2
    exact ⟨.inr ⟨by simp, rfl⟩, hB⟩
  | true =>
    by_cases hH : H < 24
    · by_cases hM : M < 60
      · go_wp2_with fail
        go_ret2
        exact ⟨rfl, hB⟩
      · go_wp2_with fail
        go_ret2
        exact ⟨rfl, hB⟩
    · go_wp2_with fail
      go_ret2
      exact ⟨rfl, hB⟩

set_option maxHeartbeats 400000 in
theorem clock_nocolon (t : ByteArray) (hsz : t.size = 12) (h2 : ¬ t[2].toNat = 58) (w : World) :
    Calls Ybaf.prog 11 #[.string t] w fun e w' => e = .returned (.tuple #[.int .i64 0, .bool false]) ∧ Below w.heap.size w w' := by
  have h2' : ¬ ((t[2].toNat : Int) = 58) := by omega
  go_enter Ybaf.func11, Ybaf.ntmps11
  go_wp2_with fail
  go_ret2
  exact ⟨rfl, (Below.refl _ w).alloc (Nat.le_refl _) _⟩

set_option maxHeartbeats 400000 in
theorem at_calls (d : Int) (h0 : 0 ≤ d) (h1 : d < 86400000000000) (w : World) :
    Calls Ybaf.prog 12 #[.agg #[.int .i64 0], .int .i64 d] w fun e w' => e = .returned (.int .i64 d) ∧ Below w.heap.size w w' := by
  have e1 : (d + 86400000000000) % 86400000000000 = d := by omega
  go_enter Ybaf.func12, Ybaf.ntmps12
  go_wp2_with fail
  go_ret
  refine ⟨?_, (Below.refl _ w).alloc (Nat.le_refl _) _⟩
  show Ending.returned (.int .i64 ((d + 86400000000000) % 86400000000000)) = _
  rw [e1]

/-- What Moment says of a text. -/
structure Says (t : ByteArray) (v : Int) (b : Bool) : Prop where
  calls : ∀ w : World, Calls Ybaf.prog 11 #[.string t] w fun e w' => e = .returned (.tuple #[.int .i64 v, .bool b]) ∧ Below w.heap.size w w'
  lo : 0 ≤ v
  hi : v < 86400000000000
  no : b = false → v = 0

set_option maxHeartbeats 400000 in
theorem moment_calls (t : ByteArray) (v : Int) (b : Bool) (h : Says t v b) (w : World) :
    Calls Ybaf.prog 8 #[.agg #[.int .i64 0], .string t] w fun e w' => e = .returned (.tuple #[.int .i64 v, .bool b]) ∧ Below w.heap.size w w' := by
  have h0 := h.lo
  have h1 := h.hi
  cases b with
  | false =>
    obtain rfl := h.no rfl
    go_enter Ybaf.func8, Ybaf.ntmps8
    go_wp2_with (first | (go_at_call 11; refine (h.calls _).mono ?_; rintro e w1 ⟨rfl, hB1⟩) | fail)
    go_ret2
    exact ⟨rfl, ((Below.refl _ w).alloc (Nat.le_refl _) _).trans (hB1.mono (by simp))⟩
  | true =>
    have hnew := Boxed.new w 36 (.int .i64 0)
    go_enter Ybaf.func8, Ybaf.ntmps8
    go_wp2_with (first | (go_at_call 11; refine (h.calls _).mono ?_; rintro e w1 ⟨rfl, hB1⟩; have hc := (hB1.cell (p := ⟨w.heap.size, 0, none⟩) (by simp)).trans hnew.cell) | (go_at_call 12; refine (at_calls v h0 h1 _).mono ?_; rintro e w2 ⟨rfl, hB2⟩) | fail)
    go_ret2
    exact ⟨rfl, (((Below.refl _ w).alloc (Nat.le_refl _) _).trans (hB1.mono (by simp))).trans (hB2.mono (by have := hB1.size; simp at this; omega))⟩
end Go.Proofs.YbulkdpqFmt
