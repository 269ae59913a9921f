/-
  zzs0223cbuild and (*server).Clone, walked.
-/
import Derived.Test.YbulkdpcCallees
namespace Go.Proofs.Ybulkdpc
open Go.RowKit
set_option linter.unusedVariables false

theorem info9 : (Yba.prog.info? 9).map (fun i => (i.zero, i.size, i.bytes)) = some (some (.string ⟨#[]⟩), 1, 16) := by kernel_rfl
theorem size9 : (Yba.prog.info? 9).map (·.size) = some 1 := by kernel_rfl
theorem make_ints4 (m : Nat) (hm : m ≤ 1100) (w : World) :
    (Instr.makeSlice 31 (.int .i64 (m : Int)) (.int .i64 ((m : Int) + 4))).run Yba.prog w = .ok (.slice (some ⟨w.heap.size, 0, none⟩) m (m + 4)) (w.alloc (.cells (List.replicate (m + 4) (Value.int .i64 0)).toArray 3)) := by
  obtain ⟨i, hi, hz0, hz1, hz2⟩ := info_parts info3
  have h := run_make (P := Yba.prog) w 31 3 i (.int .i64 0) Yba.underlying31 hi hz0 .i64 .i64 m ((m : Int) + 4) (by omega) (by omega) (by rw [hz2]; omega) (by omega)
  rw [h]
  rw [show ((m : Int) + 4).toNat = m + 4 by omega]
  simp only [Int.toNat_natCast, hz1, Nat.mul_one]
  congr 2
  rw [← toList_madeCells_one]; rfl
theorem make_strings4 (m : Nat) (hm : m ≤ 1100) (w : World) :
    (Instr.makeSlice 30 (.int .i64 (m : Int)) (.int .i64 ((m : Int) + 4))).run Yba.prog w = .ok (.slice (some ⟨w.heap.size, 0, none⟩) m (m + 4)) (w.alloc (.cells (List.replicate (m + 4) (Value.string ⟨#[]⟩)).toArray 9)) := by
  obtain ⟨i, hi, hz0, hz1, hz2⟩ := info_parts info9
  have h := run_make (P := Yba.prog) w 30 9 i (.string ⟨#[]⟩) Yba.underlying30 hi hz0 .i64 .i64 m ((m : Int) + 4) (by omega) (by omega) (by rw [hz2]; omega) (by omega)
  rw [h]
  rw [show ((m : Int) + 4).toNat = m + 4 by omega]
  simp only [Int.toNat_natCast, hz1, Nat.mul_one]
  congr 2
  rw [← toList_madeCells_one]; rfl

/-- A row of n values and four spare ones. -/
def row4 (f : Nat → Value) (z : Value) (n : Nat) : List Value := (List.range n).map f ++ List.replicate 4 z
theorem row4_splice (f : Nat → Value) (z : Value) (n : Nat) : splice (List.replicate (n + 4) z) 0 ((List.range n).map f) = row4 f z n := by
  simp [splice, row4]

/-- What lies in memory behind zzs0223cbuild. -/
structure Built (w : World) (t0 t1 : Int) (cmd : ByteArray) (en rn : Nat) (es : Nat → ByteArray) (z : Nat → Int) (b1 p : Nat) (w' : World) : Prop where
  strs : w'.heap[w.heap.size]? = some (.cells (row4 (fun j => .string (es j)) (.string ⟨#[]⟩) en).toArray 9 (0, 0))
  ints : w'.heap[b1]? = some (.cells (row4 (fun j => .int .i64 (z j)) (.int .i64 0) rn).toArray 3 (0, 0))
  self : w'.heap[p]? = some (.cells #[.int .i64 t0, .int .i64 t1, .string cmd, .slice (some ⟨w.heap.size, 0, none⟩) en (en + 4), .slice (some ⟨b1, 0, none⟩) rn (rn + 4)] 39 (0, 0))
  lt1 : w.heap.size < b1
  lt2 : b1 < p
  below : Below w.heap.size w w'

set_option maxHeartbeats 1000000 in
theorem build_calls (t0 t1 : Int) (cmd : ByteArray) (ea ra : Option Addr) (en ec rn rc : Nat) (es : Nat → ByteArray) (z : Nat → Int) (w : World) (hen : en ≤ 1024) (hrn : rn ≤ 1024)
    (hE : Reads w ea en fun j => .string (es j)) (hR : Reads w ra rn fun j => .int .i64 (z j)) :
    Calls Yba.prog 8 #[.int .i64 t0, .int .i64 t1, .string cmd, .slice ea en ec, .slice ra rn rc] w fun e w' => ∃ b1 p, e = .returned (.pointer (some ⟨p, 0, none⟩)) ∧ Built w t0 t1 cmd en rn es z b1 p w' := by
  have hm1 := make_strings4 en (by omega)
  have hm2 := make_ints4 rn (by omega)
  obtain ⟨Z1, hZ1⟩ : ∃ Z1, Z1 = List.replicate (en + 4) (Value.string ⟨#[]⟩) := ⟨_, rfl⟩
  obtain ⟨Z2, hZ2⟩ : ∃ Z2, Z2 = List.replicate (rn + 4) (Value.int .i64 0) := ⟨_, rfl⟩
  obtain ⟨c1, hc1⟩ : ∃ c1 : List Value, c1 = (List.range en).map fun j => .string (es j) := ⟨_, rfl⟩
  obtain ⟨c2, hc2⟩ : ∃ c2 : List Value, c2 = (List.range rn).map fun j => .int .i64 (z j) := ⟨_, rfl⟩
  rw [← hZ1] at hm1
  rw [← hZ2] at hm2
  have HS1 : Hid (splice Z1 0 c1 = row4 (fun j => .string (es j)) (.string ⟨#[]⟩) en) := by show _ = _; rw [hZ1, hc1]; exact row4_splice _ _ _
  have HS2 : Hid (splice Z2 0 c2 = row4 (fun j => .int .i64 (z j)) (.int .i64 0) rn) := by show _ = _; rw [hZ2, hc2]; exact row4_splice _ _ _
  have HL1 : Hid (c1.length = Nat.min en en) := by show _ = _; rw [hc1]; simp
  have HL2 : Hid (c2.length = Nat.min rn rn) := by show _ = _; rw [hc2]; simp
  have HF1 : Hid (0 + c1.length ≤ Z1.length) := by show _ ≤ _; rw [hc1, hZ1]; simp
  have HF2 : Hid (0 + c2.length ≤ Z2.length) := by show _ ≤ _; rw [hc2, hZ2]; simp
  have HO1 : Hid (∀ v ∈ c1, v.oneCell' = true) := by intro v hv; rw [hc1] at hv; simp at hv; obtain ⟨j, _, rfl⟩ := hv; rfl
  have HO2 : Hid (∀ v ∈ c2, v.oneCell' = true) := by intro v hv; rw [hc2] at hv; simp at hv; obtain ⟨j, _, rfl⟩ := hv; rfl
  have HP1 : Hid (∀ W, Below w.heap.size w W → 0 < c1.length → ∃ ad, ea = some ad ∧ ∀ j v, c1[j]? = some v → W.cell? (ad.add j) = some v) := by
    intro W hW h0
    have hp : 0 < en := by rw [hc1] at h0; simpa using h0
    obtain ⟨x, hx, _⟩ := hE 0 hp
    refine ⟨x, hx, fun j v hj => ?_⟩
    rw [hc1] at hj
    obtain ⟨h1, h2⟩ := List.getElem?_eq_some_iff.1 hj
    simp at h1 h2
    obtain ⟨x', hx', hcx⟩ := hE j h1
    rw [hx] at hx'; cases hx'
    rw [← h2]
    exact (hW.cell (World.block_lt_of_cell? w _ hcx)).trans hcx
  have HP2 : Hid (∀ W, Below w.heap.size w W → 0 < c2.length → ∃ ad, ra = some ad ∧ ∀ j v, c2[j]? = some v → W.cell? (ad.add j) = some v) := by
    intro W hW h0
    have hp : 0 < rn := by rw [hc2] at h0; simpa using h0
    obtain ⟨x, hx, _⟩ := hR 0 hp
    refine ⟨x, hx, fun j v hj => ?_⟩
    rw [hc2] at hj
    obtain ⟨h1, h2⟩ := List.getElem?_eq_some_iff.1 hj
    simp at h1 h2
    obtain ⟨x', hx', hcx⟩ := hR j h1
    rw [hx] at hx'; cases hx'
    rw [← h2]
    exact (hW.cell (World.block_lt_of_cell? w _ hcx)).trans hcx
  clear hZ1 hZ2 hc1 hc2 hE hR
  go_enter Yba.func8, Yba.ntmps8
  go_wp2_with (first
    | (refine wpList_copy_splice rfl (.tmp 19) (.tmp 20) 30 30 rfl 9 Yba.underlying30 size9 _ _ _ _ _ _ rfl rfl w.heap.size 0 Z1 9 (by exact heap_alloc_new _ _) c1 HL1.out (fun h => ⟨rfl, HP1.out _ (by exact (Below.refl _ w).alloc (Nat.le_refl _) _) h⟩) HF1.out HO1.out w.heap.size w (by exact (Below.refl _ w).alloc (Nat.le_refl _) _) (Nat.le_refl _) ?_; intro w2 hG2 hB2)
    | (refine wpList_copy_splice rfl (.tmp 28) (.tmp 29) 31 31 rfl 3 Yba.underlying31 size3 _ _ _ _ _ _ rfl rfl w2.heap.size 0 Z2 3 (by exact heap_alloc_new _ _) c2 HL2.out (fun h => ⟨rfl, HP2.out _ (by exact hB2.alloc hB2.size _) h⟩) HF2.out HO2.out w2.heap.size w2 (by exact (Below.refl _ w2).alloc (Nat.le_refl _) _) (Nat.le_refl _) ?_; intro w3 hG3 hB3)
    | fail)
  go_ret
  have hlt2 : w.heap.size < w2.heap.size := (Array.getElem?_eq_some_iff.1 hG2.out).1
  have hlt3 : w2.heap.size < w3.heap.size := (Array.getElem?_eq_some_iff.1 hG3.out).1
  refine ⟨w2.heap.size, w3.heap.size, rfl, ⟨?_, ?_, ?_, hlt2, hlt3, ?_⟩⟩
  · rw [Below.heap_alloc _ _ _ (by omega), hB3.block _ hlt2, hG2.out, HS1.out]
  · rw [Below.heap_alloc _ _ _ hlt3, hG3.out, HS2.out]
  · exact heap_alloc_new _ _
  · exact (hB2.trans (hB3.mono (by omega))).alloc (by omega) _

theorem struct_cell {W : World} {p : Nat} {L : Array Value} {t : TypeId} {j : Nat} {v : Value} (h : W.heap[p]? = some (.cells L t (0, 0))) (hj : L[j]? = some v) : W.cell? ⟨p, j, none⟩ = some v := by
  simp [World.cell?, h, hj]

set_option maxHeartbeats 400000 in
theorem clone_calls (t0 t1 : Int) (cmd : ByteArray) (p b0 b1 en rn : Nat) (w : World) (hen : en ≤ 1024) (hrn : rn ≤ 1024)
    (hs : w.heap[p]? = some (.cells #[.int .i64 t0, .int .i64 t1, .string cmd, .slice (some ⟨b0, 0, none⟩) en (en + 4), .slice (some ⟨b1, 0, none⟩) rn (rn + 4)] 39 (0, 0))) :
    Calls Yba.prog 9 #[.pointer (some ⟨p, 0, none⟩)] w fun e w' => e = .returned (.iface 32 (.pointer (some ⟨w.heap.size, 0, none⟩))) ∧
      w'.heap[w.heap.size]? = some (.cells #[.int .i64 t0, .int .i64 t1, .string cmd, .slice (some ⟨b0, 0, none⟩) en en, .slice (some ⟨b1, 0, none⟩) rn rn] 39 (0, 0)) ∧ Below w.heap.size w w' := by
  have hc0 : w.cell? ⟨p, 0, none⟩ = some (.int .i64 t0) := struct_cell hs rfl
  have hc1 : w.cell? ⟨p, 1, none⟩ = some (.int .i64 t1) := struct_cell hs rfl
  have hc2 : w.cell? ⟨p, 2, none⟩ = some (.string cmd) := struct_cell hs rfl
  have hc3 : w.cell? ⟨p, 3, none⟩ = some (.slice (some ⟨b0, 0, none⟩) en (en + 4)) := struct_cell hs rfl
  have hc4 : w.cell? ⟨p, 4, none⟩ = some (.slice (some ⟨b1, 0, none⟩) rn (rn + 4)) := struct_cell hs rfl
  have hpl : p < w.heap.size := (Array.getElem?_eq_some_iff.1 hs).1
  have HS : Hid (w.heap[p]? = some (.cells #[.int .i64 t0, .int .i64 t1, .string cmd, .slice (some ⟨b0, 0, none⟩) en (en + 4), .slice (some ⟨b1, 0, none⟩) rn (rn + 4)] 39 (0, 0))) := hs
  clear hs
  go_enter Yba.func9, Yba.ntmps9
  go_wp2
  go_region_with (first | (go_at_call 16; refine (clip_strings b0 en (en + 4) _ (by omega) (by omega)).mono ?_; rintro e w1 ⟨rfl, hw1⟩; rw [hw1]; clear hw1) | (go_at_call 17; refine (clip_ints b1 rn (rn + 4) _ (by omega) (by omega)).mono ?_; rintro e w1 ⟨rfl, hw1⟩; rw [hw1]; clear hw1))
  all_goals
    go_wp2
    go_ret
    exact ⟨rfl, heap_alloc_new _ _, ((Below.refl _ w).alloc (Nat.le_refl _) _).drew⟩
end Go.Proofs.Ybulkdpc
