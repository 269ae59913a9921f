/-
  The walks of slices.Repeat at one two, math/bits.Mul at 1, for the laws over assignments and tuples.
-/
import Derived.Test.YbulkdpcRows
import Derived.WalkKit
import Derived.WalkSpells
import Derived.WalkLawsBesides
import Derived.Laws.CopyOwn
namespace Go.Proofs.Ybulkdpc
open Go.RowKit
theorem small_cases (y : Int) (h0 : 0 ≤ y) (h1 : y ≤ 10) : y = 0 ∨ y = 1 ∨ y = 2 ∨ y = 3 ∨ y = 4 ∨ y = 5 ∨ y = 6 ∨ y = 7 ∨ y = 8 ∨ y = 9 ∨ y = 10 := by omega
theorem mask_small (y : Int) (h0 : 0 ≤ y) (h1 : y ≤ 10) : bits .and .u64 y 4294967295 = y := by
  rcases small_cases y h0 h1 with h | h | h | h | h | h | h | h | h | h | h <;> subst h <;> decide
set_option maxHeartbeats 400000 in
theorem mul64_one (y : Int) (h0 : 0 ≤ y) (h1 : y ≤ 10) (w : World) :
    Calls Yba.prog 27 #[.int .u64 1, .int .u64 y] w fun e w' => e = .returned (.tuple #[.int .u64 0, .int .u64 y]) ∧ w' = w := by
  have e1 : bits .and .u64 1 4294967295 = 1 := by decide
  have e2 := mask_small y h0 h1
  have e3 : y / 4294967296 = 0 := by omega
  have e4 : bits .and .u64 0 4294967295 = 0 := by decide
  have e5 : IntKind.u64.wrap y = y := by rw [IntKind.wrap_u64]; omega
  go_enter Yba.func27, Yba.ntmps27
  go_wp2
  go_ret2
  simp
set_option maxHeartbeats 400000 in
theorem mul_one (y : Int) (h0 : 0 ≤ y) (h1 : y ≤ 10) (w : World) :
    Calls Yba.prog 23 #[.int .u64 1, .int .u64 y] w fun e w' => e = .returned (.tuple #[.int .u64 0, .int .u64 y]) ∧ w' = w := by
  go_enter Yba.func23, Yba.ntmps23
  go_wp2_with (go_at_call 27; refine (mul64_one _ h0 h1 _).mono ?_; rintro e w' ⟨rfl, rfl⟩)
  go_ret2
  exact ⟨rfl, rfl⟩
theorem info3 : (Yba.prog.info? 3).map (fun i => (i.zero, i.size, i.bytes)) = some (some (.int .i64 0), 1, 8) := by kernel_rfl
theorem info2 : (Yba.prog.info? 2).map (fun i => (i.zero, i.size, i.bytes)) = some (some (.int .i64 0), 1, 8) := by kernel_rfl
theorem size3 : (Yba.prog.info? 3).map (·.size) = some 1 := by kernel_rfl

/-- 'make([]int, m)'. -/
theorem make_ints (m : Nat) (hm : m ≤ 1000) (w : World) :
    (Instr.makeSlice 31 (.int .i64 (m : Int)) (.int .i64 (m : Int))).run Yba.prog w = .ok (.slice (some ⟨w.heap.size, 0, none⟩) m m) (w.alloc (.cells (List.replicate m (Value.int .i64 0)).toArray 3)) := by
  obtain ⟨i, hi, hz0, hz1, hz2⟩ := info_parts info3
  have h := run_make (P := Yba.prog) w 31 3 i (.int .i64 0) Yba.underlying31 hi hz0 .i64 .i64 m m (by omega) (by omega) (by rw [hz2]; omega) (by omega)
  rw [h]
  simp only [Int.toNat_natCast, hz1, Nat.mul_one]
  congr 2
  rw [← toList_madeCells_one]; rfl

theorem addr_add (b o i : Nat) : (⟨b, o, none⟩ : Addr).add i = ⟨b, o + i, none⟩ := by unfold Addr.add; split <;> simp_all
def twos (m k : Nat) : List Value := List.replicate k (.int .i64 2) ++ List.replicate (m - k) (.int .i64 0)

theorem twos_first (m : Nat) : splice (List.replicate m (Value.int .i64 0)) 0 (List.replicate (Nat.min 1 m) (Value.int .i64 2)) = twos m (Nat.min 1 m) := by
  simp [splice, twos]
theorem twos_next (m k c : Nat) (h : k + c ≤ m) : splice (twos m k) k (List.replicate c (Value.int .i64 2)) = twos m (k + c) := by
  unfold splice twos
  rw [List.take_append_of_le_length (by simp), List.take_of_length_le (by simp), List.drop_append]
  simp only [List.length_replicate, List.drop_replicate]
  rw [show k - (k + c) = 0 by omega, show m - k - (k + c - k) = m - (k + c) by omega]
  simp only [List.replicate_zero, List.nil_append]; rw [← List.append_assoc, List.replicate_append_replicate]
theorem twos_length (m k : Nat) (h : k ≤ m) : (twos m k).length = m := by simp [twos]; omega
theorem twos_get (m k j : Nat) (h : j < k) : (twos m k)[j]? = some (Value.int .i64 2) := by
  unfold twos; rw [List.getElem?_append_left (by simpa using h)]; simp [h]

set_option maxHeartbeats 400000 in
theorem repeat_two (m : Nat) (hm : m ≤ 10) (b0 : Nat) (w : World) (hb : w.cell? ⟨b0, 0, none⟩ = some (.int .i64 2)) (hbl : b0 < w.heap.size) :
    Calls Yba.prog 15 #[.slice (some ⟨b0, 0, none⟩) 1 1, .int .i64 m] w fun e w' => e = .returned (.slice (some ⟨w.heap.size, 0, none⟩) m m) ∧
      w'.heap[w.heap.size]? = some (.cells (twos m m).toArray 3 (0, 0)) ∧ Below w.heap.size w w' := by
  have hmk := make_ints m (by omega)
  have hu : IntKind.u64.wrap (m : Int) = (m : Int) := by rw [IntKind.wrap_u64]; omega
  have hi : IntKind.i64.wrap (m : Int) = (m : Int) := by rw [IntKind.wrap_i64]; omega
  obtain ⟨cs, hcs⟩ : ∃ cs, cs = List.replicate (Nat.min 1 m) (Value.int .i64 2) := ⟨_, rfl⟩
  obtain ⟨Z, hZ⟩ : ∃ Z, Z = List.replicate m (Value.int .i64 0) := ⟨_, rfl⟩
  have HC : Hid (cs = List.replicate (Nat.min 1 m) (Value.int .i64 2)) := hcs
  have HZ : Hid (Z = List.replicate m (Value.int .i64 0)) := hZ
  rw [← hZ] at hmk
  have hlen : cs.length = Nat.min 1 m := by rw [hcs]; simp
  have hmin : Nat.min 1 m ≤ m := Nat.min_le_right _ _
  have HL : Hid (cs.length = Nat.min 1 m) := hlen
  clear hcs hZ hlen
  have hsrc : ∀ (W : World), W.cell? ⟨b0, 0, none⟩ = some (.int .i64 2) → ∀ (j : Nat) (v : Value), cs[j]? = some v → W.cell? ((⟨b0, 0, none⟩ : Addr).add j) = some v := by
    intro W hW j v hj
    rw [HC.out] at hj
    obtain ⟨h1, h2⟩ := List.getElem?_eq_some_iff.1 hj
    simp at h1 h2
    have : Nat.min 1 m ≤ 1 := Nat.min_le_left _ _
    obtain rfl : j = 0 := by omega
    rw [show (⟨b0, 0, none⟩ : Addr).add 0 = ⟨b0, 0, none⟩ from rfl, hW, h2]
  have HSRC : Hid (∀ (W : World), W.cell? ⟨b0, 0, none⟩ = some (.int .i64 2) → ∀ (j : Nat) (v : Value), cs[j]? = some v → W.cell? ((⟨b0, 0, none⟩ : Addr).add j) = some v) := hsrc
  clear hsrc
  go_enter Yba.func15, Yba.ntmps15
  go_wp2_with (first
    | (go_at_call 23; refine (mul_one _ (by omega) (by omega) _).mono ?_; rintro e w' ⟨rfl, rfl⟩)
    | (refine wpList_copy_splice rfl (.tmp 31) (.tmp 32) 31 31 rfl 3 Yba.underlying31 size3 _ _ _ _ _ _ rfl rfl w'.heap.size 0 Z 3 (heap_alloc_new _ _) cs HL.out (fun _ => ⟨rfl, _, rfl, HSRC.out _ (by exact cell_later ((Below.refl _ _).alloc (Nat.le_refl _) _) hb)⟩) (by rw [HL.out, HZ.out]; simpa using hmin) (by rw [HC.out]; intro v hv; rw [List.eq_of_mem_replicate hv]; rfl) w'.heap.size w' ((Below.refl _ _).alloc (Nat.le_refl _) _) (Nat.le_refl _) ?_; intro w2 hG hB)
    | fail)
  go_loopw [8] (fun n wr => ∃ k : Nat, k ≤ m ∧ (0 < m → 0 < k) ∧ n = .int .i64 k ∧ Hid (wr.heap[w'.heap.size]? = some (.cells (twos m k).toArray 3 (0, 0))) ∧ Below w'.heap.size w' wr) (fun n _ => m - (intOf n).toNat)
  case atStart =>
    refine ⟨Nat.min 1 m, hmin, fun h => ?_, ?_, ?_, hB⟩
    · show 0 < Nat.min 1 m
      exact Nat.lt_min.2 ⟨by omega, h⟩
    · rw [HL.out]
    · have h := hG.out
      rw [HZ.out, HC.out, twos_first] at h
      exact h
  case round =>
    obtain ⟨k, hk, hk0, rfl, hG1, hB1⟩ := hrel
    by_cases hlt : k < m
    · obtain ⟨c, hc⟩ : ∃ c, c = Nat.min k (m - k) := ⟨_, rfl⟩
      have hc1 : c ≤ m - k := by rw [hc]; exact Nat.min_le_right _ _
      have hc2 : c ≤ k := by rw [hc]; exact Nat.min_le_left _ _
      have hc3 : 0 < c := by rw [hc]; exact Nat.lt_min.2 ⟨by omega, by omega⟩
      have HC2 : Hid (c = Nat.min k (m - k)) := hc
      clear hc
      obtain ⟨ds, hds⟩ : ∃ ds, ds = List.replicate c (Value.int .i64 2) := ⟨_, rfl⟩
      have HD : Hid (ds = List.replicate c (Value.int .i64 2)) := hds
      have HDL : Hid (ds.length = Nat.min k (m - k)) := by show _ = _; rw [hds, ← HC2.out]; simp
      have HFIT : Hid (k + ds.length ≤ (twos m k).length) := by show _ ≤ _; rw [hds, twos_length m k hk]; simp; omega
      have HSR : Hid (∀ (W : World), W.heap[w'.heap.size]? = some (.cells (twos m k).toArray 3 (0, 0)) → ∀ (j : Nat) (v : Value), ds[j]? = some v → W.cell? ((⟨w'.heap.size, 0, none⟩ : Addr).add j) = some v) := by
        intro W hW j v hj
        rw [hds] at hj
        obtain ⟨h1, h2⟩ := List.getElem?_eq_some_iff.1 hj
        simp at h1 h2
        have hg := twos_get m k j (by omega)
        rw [addr_add]
        simp only [World.cell?, hW, Nat.zero_add]
        rw [← h2]
        simpa using hg
      clear hds
      have hlenG : w'.heap.size ≤ w'.heap.size := Nat.le_refl _
      go_wp2
      go_region_law (refine step_copy_splice rfl (.tmp 41) (.tmp 44) 31 31 rfl 3 Yba.underlying31 size3 (some ⟨w'.heap.size, k, none⟩) (some ⟨w'.heap.size, 0, none⟩) (m - k) (m - k) k m (by simp [Act.eval, Act.put]; omega) (by simp [Act.eval, Act.put]) w'.heap.size k (twos m k) 3 (by exact hG1.out) ds HDL.out (fun _ => ⟨rfl, _, rfl, HSR.out _ (by exact hG1.out)⟩) HFIT.out (by rw [HD.out]; intro v hv; rw [List.eq_of_mem_replicate hv]; rfl) w'.heap.size w' (by exact hB1.drew) (Nat.le_refl _) ?_; intro w4 hG4 hB4)
      have hdl : ds.length = c := by rw [HD.out]; simp
      have hw : IntKind.i64.wrap ((k : Int) + (ds.length : Int)) = ((k + c : Nat) : Int) := by rw [hdl, IntKind.wrap_i64]; omega
      clear hdl
      go_wp2
      go_roundw
      case rel =>
        refine ⟨k + c, by omega, fun _ => by omega, by omega, ?_⟩
        have h := hG4.out
        rw [HD.out, twos_next m k c (by omega)] at h
        exact h
      case measure =>
        simp [intOf]; omega
    · obtain rfl : k = m := by omega
      go_wp2
      go_ret
      exact ⟨rfl, hG1.out, hB1⟩
end Go.Proofs.Ybulkdpc
