/-
  What parseWindow gives, and the law of the shape, walked.
-/
import Derived.Test.YbulkdpqFmtWindow
namespace Go.Proofs.YbulkdpqFmt
open Go.RowKit Go.Extern.Stop Go.Stop Go.Extern
set_option linter.unusedVariables false

theorem eleven (s : ByteArray) (h : s.size = 11) : ∃ a b c d e f g i j k l, s = ⟨#[a, b, c, d, e, f, g, i, j, k, l]⟩ := by
  obtain ⟨⟨l⟩⟩ := s
  have h' : l.length = 11 := h
  match l, h' with
  | [a, b, c, d, e, f, g, i, j, k, l], _ => exact ⟨a, b, c, d, e, f, g, i, j, k, l, rfl⟩

/-- The text that Moment is handed. -/
def txt (a b c d e : UInt8) : ByteArray := ⟨#[a, b, c, d, e, 58, 48, 48, 46, 48, 48, 48]⟩

theorem txt_left (a b c d e f g i j k l : UInt8) : (⟨#[a, b, c, d, e, f, g, i, j, k, l]⟩ : ByteArray).extract 0 5 ++ tail7 = txt a b c d e := by
  apply ByteArray.ext
  simp [ByteArray.data_append, ByteArray.data_extract, tail7, txt]
theorem txt_right (a b c d e f g i j k l : UInt8) : (⟨#[a, b, c, d, e, f, g, i, j, k, l]⟩ : ByteArray).extract 6 11 ++ tail7 = txt g i j k l := by
  apply ByteArray.ext
  simp [ByteArray.data_append, ByteArray.data_extract, tail7, txt]

theorem txt0 (a b c d e : UInt8) : (txt a b c d e).extract 0 2 = ⟨#[a, b]⟩ := by
  apply ByteArray.ext
  simp [ByteArray.data_extract, txt]
theorem txt3 (a b c d e : UInt8) : (txt a b c d e).extract 3 5 = ⟨#[d, e]⟩ := by
  apply ByteArray.ext
  simp [ByteArray.data_extract, txt]
theorem txt6 (a b c d e : UInt8) : (txt a b c d e).extract 6 8 = ⟨#[48, 48]⟩ := by
  apply ByteArray.ext
  simp [ByteArray.data_extract, txt]
theorem txt9 (a b c d e : UInt8) : (txt a b c d e).extract 9 12 = ⟨#[48, 48, 48]⟩ := by
  apply ByteArray.ext
  simp [ByteArray.data_extract, txt]

/-- Where the third byte is a colon: both fields digits and in their range, or no. -/
theorem says_form (a b c d e : UInt8) (hc : c.toNat = 58) (H M : Nat) (ok : Bool) (hH : fieldN [a, b] = H) (hM : fieldN [d, e] = M) (hok : fieldOk (fieldOk true [a, b]) [d, e] = ok) :
    ((ok = true ∧ H < 24 ∧ M < 60) ∧ Says (txt a b c d e) ((H : Int) * 3600000000000 + (M : Int) * 60000000000) true) ∨ (¬ (ok = true ∧ H < 24 ∧ M < 60) ∧ Says (txt a b c d e) 0 false) := by
  have h := clock_form (txt a b c d e) ⟨#[a, b]⟩ ⟨#[d, e]⟩ rfl hc rfl rfl (txt0 ..) (txt3 ..) (txt6 ..) (txt9 ..) (by simp [ByteArray.size]) (by simp [ByteArray.size]) H M ok hH hM hok
  by_cases hg : ok = true ∧ H < 24 ∧ M < 60
  · refine .inl ⟨hg, ⟨fun w => (h w).mono ?_, by omega, by omega, by simp⟩⟩
    rintro e w' ⟨⟨-, rfl⟩ | ⟨hn, -⟩, hB⟩
    · exact ⟨rfl, hB⟩
    · exact absurd hg hn
  · refine .inr ⟨hg, ⟨fun w => (h w).mono ?_, by omega, by omega, by simp⟩⟩
    rintro e w' ⟨⟨hn, -⟩ | ⟨-, rfl⟩, hB⟩
    · exact absurd hn hg
    · exact ⟨rfl, hB⟩

theorem says_any (a b c d e : UInt8) : ∃ v k, Says (txt a b c d e) v k := by
  by_cases hc : c.toNat = 58
  · rcases says_form a b c d e hc _ _ _ rfl rfl rfl with ⟨-, h⟩ | ⟨-, h⟩
    · exact ⟨_, _, h⟩
    · exact ⟨_, _, h⟩
  · exact ⟨0, false, ⟨clock_nocolon _ rfl hc, by omega, by omega, by simp⟩⟩

/-- What the law of the shape asks of parseWindow. -/
def Shaped (s : ByteArray) (e : Ending) : Prop := Refused e ∨ (∃ (h : s.size = 11), s[5].toNat = 45 ∧ ∃ v1 v2, Opened e v1 v2 ∧ 0 ≤ v1 ∧ v1 < 86400000000000 ∧ v1 < v2 ∧ v2 - v1 < 86400000000000)

theorem window_shaped (F : Interp) (s : ByteArray) (w : World) (hF : F.answers w.tape) :
    Calls Ybaf.prog 6 #[.string s] w fun e w' => Shaped s e ∧ Below w.heap.size w w' := by
  by_cases hsz : s.size = 11
  · by_cases h5 : s[5].toNat = 45
    · obtain ⟨a, b, c, d, e, f, g, i, j, k, l, rfl⟩ := eleven s hsz
      obtain ⟨v1, b1, S1⟩ := says_any a b c d e
      obtain ⟨v2, b2, S2⟩ := says_any g i j k l
      refine (window_parts F _ hsz h5 _ _ (txt_left ..) (txt_right ..) v1 v2 b1 b2 S1 S2 w hF).mono ?_
      rintro e w' ⟨⟨⟨-, -, hne⟩, ho⟩ | ⟨-, hr⟩, hB⟩
      · have := S1.lo; have := S1.hi; have := S2.lo; have := S2.hi
        refine ⟨.inr ⟨hsz, h5, v1, _, ho, S1.lo, S1.hi, ?_, ?_⟩, hB⟩
        · split <;> omega
        · split <;> omega
      · exact ⟨.inl hr, hB⟩
    · exact (window_dash F s hsz h5 w hF).mono fun e w' ⟨h, hB⟩ => ⟨.inl h, hB⟩
  · exact (window_size F s hsz w hF).mono fun e w' ⟨h, hB⟩ => ⟨.inl h, hB⟩
set_option maxHeartbeats 400000 in
theorem shape_long (s : ByteArray) (hs : 1024 < s.size) (w : World) :
    Calls Ybaf.prog 4 #[.string s] w fun e w' => e = .returned (.bool true) ∧ Below w.heap.size w w' := by
  have hs' : (1024 : Int) < (s.size : Int) := by omega
  go_enter Ybaf.func4, Ybaf.ntmps4
  go_wp2_with fail
  go_ret
  exact ⟨rfl, Below.refl _ w⟩

set_option maxHeartbeats 400000 in
theorem shape_calls (F : Interp) (s : ByteArray) (hs : s.size ≤ 1024) (w : World) (hF : F.answers w.tape) :
    Calls Ybaf.prog 4 #[.string s] w fun e w' => e = .returned (.bool true) ∧ Below w.heap.size w w' := by
  have hs' : ¬ ((1024 : Int) < (s.size : Int)) := by omega
  go_enter Ybaf.func4, Ybaf.ntmps4
  go_wp2_with fail
  refine (window_shaped F s w hF).mono ?_
  rintro e w1 ⟨⟨g, rfl⟩ | ⟨hsz, h5, v1, v2, rfl, g1, g2, g3, g4⟩, hB⟩
  · by_cases hsz : s.size = 11
    · have hsz' : ((s.size : Int) != 11) = false := by rw [hsz]; rfl
      cases h5 : ((s[5].toNat : Int) != 45) with
      | true =>
        go_wp2_with fail
        go_ret
        exact ⟨rfl, hB.alloc hB.size _⟩
      | false =>
        go_wp2_with fail
        go_ret
        exact ⟨rfl, hB.alloc hB.size _⟩
    · have hsz' : ((s.size : Int) != 11) = true := by simp; omega
      go_wp2_with fail
      go_ret
      exact ⟨rfl, hB.alloc hB.size _⟩
  · have hsz' : ((s.size : Int) != 11) = false := by rw [hsz]; rfl
    have h5' : ((s[5].toNat : Int) != 45) = false := by rw [h5]; rfl
    go_wp2_with fail
    go_ret
    exact ⟨rfl, hB.alloc hB.size _⟩

theorem shape_all (F : Interp) (s : ByteArray) (w : World) (hF : F.answers w.tape) :
    Calls Ybaf.prog 4 #[.string s] w fun e w' => e = .returned (.bool true) ∧ Below w.heap.size w w' := by
  by_cases hs : s.size ≤ 1024
  · exact shape_calls F s hs w hF
  · exact shape_long s (by omega) w
end Go.Proofs.YbulkdpqFmt
