/-
  The law's own loop, walked.
-/
import Derived.Test.YbulkdsiDoorTarget
import Derived.WalkSmall
namespace Go.Proofs.YbulkdsiDoor
open Go.RowKit
set_option linter.unusedVariables false

theorem St.cells {B : World} {mb cb : Nat} {s : Int} {f : ByteArray} {k : Nat} {w : World} (h : St B mb cb s f k w) :
    Below mb B w ∧ 0 ≤ s ∧ s ≤ 6 ∧ w.cell? ⟨mb, 2, none⟩ = some (.string ⟨#[]⟩) ∧ w.cell? ⟨mb, 3, none⟩ = some (.string f) ∧ w.cell? ⟨mb, 4, none⟩ = some (.int .u8 s) := by
  rcases h with ⟨h0, h4, rfl, h⟩ | ⟨rfl, rfl, o, n, len, held, hn, h⟩ | ⟨rfl, C, h, c2, c3, c4⟩
  · exact ⟨h.bel, by omega, by omega, h.cm 2, h.cm 3, h.cm 4⟩
  · obtain ⟨over, x, y, hS, _⟩ := h.ex
    exact ⟨hS.bel, by omega, by omega, hS.cm 2, hS.cm 3, hS.cm 4⟩
  · exact ⟨h.bel, by omega, by omega, (h.cm 2).trans c2, (h.cm 3).trans c3, (h.cm 4).trans c4⟩

theorem cell_lt {w : World} {b o : Nat} {v : Value} (h : w.cell? ⟨b, o, none⟩ = some v) : b < w.heap.size := by
  refine Nat.lt_of_not_le fun hle => ?_
  rw [World.cell?, Array.getElem?_eq_none hle] at h
  exact absurd h (by simp)

theorem tbl_in (n : Nat) (h : n < ({ data := #[47, 58, 63, 97, 90, 57, 43, 45, 46, 32, 35, 104] } : ByteArray).size) : InT (((({ data := #[47, 58, 63, 97, 90, 57, 43, 45, 46, 32, 35, 104] } : ByteArray)[n]'h).toNat : Nat) : Int) := by
  have h' : n < 12 := h
  obtain rfl | rfl | rfl | rfl | rfl | rfl | rfl | rfl | rfl | rfl | rfl | rfl : n = 0 ∨ n = 1 ∨ n = 2 ∨ n = 3 ∨ n = 4 ∨ n = 5 ∨ n = 6 ∨ n = 7 ∨ n = 8 ∨ n = 9 ∨ n = 10 ∨ n = 11 := by omega
  · exact .inl rfl
  · exact .inr (.inl rfl)
  · exact .inr (.inr (.inl rfl))
  · exact .inr (.inr (.inr (.inl rfl)))
  · exact .inr (.inr (.inr (.inr (.inl rfl))))
  · exact .inr (.inr (.inr (.inr (.inr (.inl rfl)))))
  · exact .inr (.inr (.inr (.inr (.inr (.inr (.inl rfl))))))
  · exact .inr (.inr (.inr (.inr (.inr (.inr (.inr (.inl rfl)))))))
  · exact .inr (.inr (.inr (.inr (.inr (.inr (.inr (.inr (.inl rfl))))))))
  · exact .inr (.inr (.inr (.inr (.inr (.inr (.inr (.inr (.inr (.inl rfl)))))))))
  · exact .inr (.inr (.inr (.inr (.inr (.inr (.inr (.inr (.inr (.inr (.inl rfl))))))))))
  · exact .inr (.inr (.inr (.inr (.inr (.inr (.inr (.inr (.inr (.inr (.inr rfl))))))))))

/-- What the law lays ahead of its loop. -/
def born (w : World) : World :=
  (((w.alloc (.cells #[.string ⟨#[47]⟩] 9)).alloc (.cells #[.string ⟨#[97, 108, 108]⟩] 9)).alloc
    (.cells #[.slice (some ⟨w.heap.size, 0, none⟩) 1 1, .slice (some ⟨w.heap.size + 1, 0, none⟩) 1 1, .int .i64 1] 27)).alloc
    (.cells #[.pointer (some ⟨w.heap.size + 1 + 1, 0, none⟩), .pointer none, .string ⟨#[]⟩, .string ⟨#[]⟩, .int .u8 0, .slice none 0 0, .int .i64 0, .int .i8 0, .slice none 0 0, .int .i64 0, .int .i8 0, .bool false, .int .u8 0, .int .u8 0] 36)
theorem born_heap (w : World) : (born w).heap[w.heap.size]? = some (.cells #[.string ⟨#[47]⟩] 9) ∧ (born w).heap[w.heap.size + 1]? = some (.cells #[.string ⟨#[97, 108, 108]⟩] 9) ∧
    (born w).heap[w.heap.size + 1 + 1]? = some (.cells #[.slice (some ⟨w.heap.size, 0, none⟩) 1 1, .slice (some ⟨w.heap.size + 1, 0, none⟩) 1 1, .int .i64 1] 27) ∧
    (born w).heap[w.heap.size + 1 + 1 + 1]? = some (.cells (m0 (w.heap.size + 1 + 1) ⟨#[]⟩ 0) 36) := by
  refine ⟨?_, ?_, ?_, ?_⟩
  · rw [born, Below.heap_alloc _ _ _ (by simp; omega), Below.heap_alloc _ _ _ (by simp; omega), Below.heap_alloc _ _ _ (by simp)]
    exact heapNew w _
  · rw [born, Below.heap_alloc _ _ _ (by simp), Below.heap_alloc _ _ _ (by simp)]
    have := heapNew (w.alloc (.cells #[.string ⟨#[47]⟩] 9)) (.cells #[.string ⟨#[97, 108, 108]⟩] 9)
    rwa [World.size_alloc] at this
  · rw [born, Below.heap_alloc _ _ _ (by simp)]
    have := heapNew ((w.alloc (.cells #[.string ⟨#[47]⟩] 9)).alloc (.cells #[.string ⟨#[97, 108, 108]⟩] 9)) (.cells #[.slice (some ⟨w.heap.size, 0, none⟩) 1 1, .slice (some ⟨w.heap.size + 1, 0, none⟩) 1 1, .int .i64 1] 27)
    rwa [World.size_alloc, World.size_alloc] at this
  · have := heapNew (((w.alloc (.cells #[.string ⟨#[47]⟩] 9)).alloc (.cells #[.string ⟨#[97, 108, 108]⟩] 9)).alloc (.cells #[.slice (some ⟨w.heap.size, 0, none⟩) 1 1, .slice (some ⟨w.heap.size + 1, 0, none⟩) 1 1, .int .i64 1] 27)) (.cells (m0 (w.heap.size + 1 + 1) ⟨#[]⟩ 0) 36)
    rw [World.size_alloc, World.size_alloc, World.size_alloc] at this
    exact this
theorem born_bs (w : World) : Bs (born w) (w.heap.size + 1 + 1 + 1) (w.heap.size + 1 + 1) w.heap.size (w.heap.size + 1) := by
  obtain ⟨h0, h1, h2, h3⟩ := born_heap w
  exact ⟨by omega, by omega, by omega, by simp [World.cell?, h2], by simp [World.cell?, h2], by simp [World.cell?, h2], by simp [World.cell?, h0], by simp [World.cell?, h1, allS]⟩
theorem born_st (w : World) : St (born w) (w.heap.size + 1 + 1 + 1) (w.heap.size + 1 + 1) 0 ⟨#[]⟩ 0 (born w) :=
  .inl ⟨by decide, by decide, rfl, (born_heap w).2.2.2, Below.refl _ _⟩
theorem born_below (w : World) : Below w.heap.size w (born w) :=
  ((((Below.refl _ w).alloc (Nat.le_refl _) _).alloc (by simp) _).alloc (by simp; omega) _).alloc (by simp; omega) _

set_option maxRecDepth 4000 in
set_option maxHeartbeats 4000000 in
theorem law_some (b off len0 cap0 : Nat) (z : Nat → Int) (hl : len0 ≤ cap0) (hm : cap0 ≤ maxLen) (w : World) (hz : ∀ i, i < len0 → w.cell? ⟨b, off + i, none⟩ = some (.int .u8 (z i))) (hz0 : ∀ i, 0 ≤ z i ∧ z i ≤ 255) :
    Calls Ybad.prog 3 #[.slice (some ⟨b, off, none⟩) len0 cap0] w fun e w' => e = .returned (.bool true) ∧ Below w.heap.size w w' := by
  by_cases hbig : 1024 < len0
  · have hd : decide ((len0 : Int) > 1024) = true := by simp; omega
    go_enter Ybad.func3, Ybad.ntmps3
    go_wp2_with fail
    go_ret
    exact ⟨rfl, Below.refl _ _⟩
  · have hd : decide ((len0 : Int) > 1024) = false := by simp; omega
    go_enter Ybad.func3, Ybad.ntmps3
    go_wp2_with fail
    have hBs := born_bs w
    have hSt := born_st w
    have hBw := born_below w
    change Code.wp _ _ _ _ (born w)
    generalize born w = B at hBs hSt hBw ⊢
    generalize w.heap.size + 1 + 1 + 1 = mb at hBs hSt ⊢
    generalize w.heap.size + 1 + 1 = cb at hBs hSt ⊢
    go_loopw [4, 5, 24] (fun s e i wr => ∃ (si : Int) (eb : Bool) (k : Nat), s = .int .u8 si ∧ e = .bool eb ∧ i = .int .i64 k ∧ k ≤ len0 ∧ St B mb cb si (foundP eb ⟨#[]⟩) (2 * k) wr) (fun _ _ i _ => (len0 - intOf i).toNat)
    case atStart => exact ⟨0, false, 0, rfl, rfl, rfl, by omega, hSt⟩
    case round =>
      obtain ⟨si, eb, k, rfl, rfl, rfl, hk, hS⟩ := hrel
      obtain ⟨hbel, s0, s6, c2, c3, c4⟩ := hS.cells
      have hlo : w.heap.size ≤ mb := by have := hBs.hpb; omega
      have hWr : Below w.heap.size w wr := hBw.trans (hbel.mono hlo)
      by_cases hlt : k < len0
      · have hb := cell_lt (hz k hlt)
        have hck : wr.cell? ⟨b, off + k, none⟩ = some (.int .u8 (z k)) := (hWr.cell (p := ⟨b, off + k, none⟩) hb).trans (hz k hlt)
        obtain ⟨zl, zh⟩ := hz0 k
        generalize z k = y at hck zl zh
        have hr : y % 12 < 12 := by omega
        have hr0 : 0 ≤ y % 12 := by omega
        go_wp2_with fail
        have hin : InT (((({ data := #[47, 58, 63, 97, 90, 57, 43, 45, 46, 32, 35, 104] } : ByteArray)[(y % 12).toNat]'(by show _ < 12; omega)).toNat : Nat) : Int) := tbl_in _ _
        generalize (((({ data := #[47, 58, 63, 97, 90, 57, 43, 45, 46, 32, 35, 104] } : ByteArray)[(y % 12).toNat]'(by show _ < 12; omega)).toNat : Nat) : Int) = c at hin ⊢
        clear hck c2 c3 c4
        refine (target_calls hBs si _ (2 * k) (by omega) c hin wr hS).mono ?_
        rintro e w1 ⟨rfl, hS1⟩
        have hc5 := fun X => step_calls si c s0 s6 hin X
        generalize stepP si c = p at hS1 hc5
        obtain ⟨s', e'⟩ := p
        have hS1' : St B mb cb s' (foundP e' (foundP eb ⟨#[]⟩)) (2 * k + 2) w1 := hS1
        clear hS1
        obtain ⟨_, s0', s6', _, _, c4⟩ := hS1'.cells
        cases e'
        · go_wp2_with (go_at_call 5; refine (hc5 _).mono ?_; rintro e w2 ⟨rfl, rfl⟩)
          exact ⟨⟨s', eb, k + 1, rfl, rfl, by simp, by omega, hS1'⟩, by simp [intOf]; omega⟩
        · go_wp2_with (go_at_call 5; refine (hc5 _).mono ?_; rintro e w2 ⟨rfl, rfl⟩)
          exact ⟨⟨s', true, k + 1, rfl, rfl, by simp, by omega, hS1'⟩, by simp [intOf]; omega⟩
      · cases eb
        · have d3 : wr.cell? ⟨mb, 3, none⟩ = some (.string ⟨#[]⟩) := c3
          clear c3 hS
          go_wp2_with fail
          go_ret
          exact ⟨rfl, hWr⟩
        · have d3 : wr.cell? ⟨mb, 3, none⟩ = some (.string ⟨#[97, 108, 108]⟩) := c3
          clear c3 hS
          go_wp2_with fail
          go_ret
          exact ⟨rfl, hWr⟩

set_option maxRecDepth 4000 in
set_option maxHeartbeats 4000000 in
theorem law_zero (a : Option Addr) (cap : Nat) (w : World) :
    Calls Ybad.prog 3 #[.slice a 0 cap] w fun e w' => e = .returned (.bool true) ∧ Below w.heap.size w w' := by
  go_enter Ybad.func3, Ybad.ntmps3
  go_wp2_with fail
  have hSt := born_st w
  have hBw := born_below w
  change Code.wp _ _ _ _ (born w)
  generalize born w = B at hSt hBw ⊢
  generalize w.heap.size + 1 + 1 + 1 = mb at hSt ⊢
  generalize w.heap.size + 1 + 1 = cb at hSt ⊢
  go_loopw [4, 5, 24] (fun s e i wr => s = .int .u8 0 ∧ e = .bool false ∧ i = .int .i64 0 ∧ wr = B) (fun _ _ _ _ => 0)
  case atStart => exact ⟨rfl, rfl, rfl, rfl⟩
  case round =>
    obtain ⟨rfl, rfl, rfl, rfl⟩ := hrel
    obtain ⟨hbel, s0, s6, c2, c3, c4⟩ := hSt.cells
    go_wp2_with fail
    go_ret
    exact ⟨rfl, hBw⟩
end Go.Proofs.YbulkdsiDoor
