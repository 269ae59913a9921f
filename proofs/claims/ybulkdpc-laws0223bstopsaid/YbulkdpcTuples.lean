/-
  The iterator that tuples hands back, at m twos: its contract.
-/
import Derived.Test.YbulkdpcContains
import Derived.Test.YbulkdpcRange
import Derived.Test.YbulkdpcBits
import Derived.RangeFuncBox
import Derived.OwnWalkIn
import Derived.TacticsInMore
import Derived.LoopNIn
import Derived.LoopIn
import Derived.Sort.QuietIn
namespace Go.Proofs.Ybulkdpc
open Go.RowKit Go.Shelf
attribute [local go_sem] Oper.semAt_some

def digV (m k : Nat) : List Value := (List.range m).map fun j => .int .i64 ((Bits.bit m k j : Nat) : Int)
def midV (m k t : Nat) : List Value := (List.range m).map fun j => .int .i64 ((Bits.mid m k t j : Nat) : Int)
/-- The number that a block's digits say. -/
def numAt (W : World) (d : Nat) : Nat := match W.heap[d]? with
  | some (.cells cs _ _) => Bits.num (cs.toList.map fun v => (intOf v).toNat)
  | _ => 0
theorem numAt_of {W : World} {d m k : Nat} (hk : k < 2 ^ m) (h : W.heap[d]? = some (.cells (digV m k).toArray 3 (0, 0))) : numAt W d = k := by
  unfold numAt
  rw [h]
  simp only [digV, List.map_map]
  have e : ((fun v => (intOf v).toNat) ∘ fun j => Value.int .i64 ((Bits.bit m k j : Nat) : Int)) = Bits.bit m k := by
    funext j; simp [intOf]
  rw [e]; exact Bits.num_digits m k hk

theorem digV_zero (m : Nat) : digV m 0 = List.replicate m (Value.int .i64 0) := by
  simp [digV, Bits.bit_zero, List.map_const']
theorem mid_all (m k : Nat) : midV m k m = digV m k := by
  unfold midV digV
  apply List.map_congr_left
  intro j hj
  have : j < m := by simpa using hj
  simp [Bits.mid, this]
theorem midV_get (m k t j : Nat) (hj : j < m) : (midV m k t)[j]? = some (.int .i64 ((Bits.mid m k t j : Nat) : Int)) := by
  simp [midV, hj]
/-- One place cleared. -/
theorem midV_clear (m k t : Nat) (ht : t < m) : (midV m k (t + 1)).toArray.setIfInBounds t (.int .i64 0) = (midV m k t).toArray := by
  apply Array.ext'
  apply List.ext_getElem?
  intro j
  simp only [Array.toList_setIfInBounds, List.getElem?_set]
  by_cases e : t = j
  · subst e; simp [midV, ht, Bits.mid]
  · by_cases hj : j < m
    · simp [midV, hj, Bits.mid, e]
      have : (j < t + 1) ↔ (j < t) := by omega
      simp [this]
    · simp [midV, hj, e]
/-- One place raised. -/
theorem midV_raise (m k t : Nat) (ht : t < m) (h : Bits.Ones m k (t + 1)) (hb : Bits.bit m k t = 0) : (midV m k (t + 1)).toArray.setIfInBounds t (.int .i64 1) = (digV m (k + 1)).toArray := by
  apply Array.ext'
  apply List.ext_getElem?
  intro j
  simp only [Array.toList_setIfInBounds, List.getElem?_set]
  by_cases e : t = j
  · subst e; simp [midV, digV, ht, Bits.step_digits m k t t h ht hb ht]
  · by_cases hj : j < m
    · have := Bits.step_digits m k t j h ht hb hj
      rw [if_neg (fun x => e x.symm)] at this
      simp [midV, digV, hj, e, this]
    · simp [midV, digV, hj, e]
theorem block_cell {W : World} {d : Nat} {L : List Value} {t : TypeId} {j : Nat} {v : Value} (h : W.heap[d]? = some (.cells L.toArray t (0, 0))) (hj : L[j]? = some v) : W.cell? ⟨d, j, none⟩ = some v := by
  simp only [World.cell?, h]
  simpa using hj
theorem block_frozen {W : World} {d : Nat} {L : List Value} {t : TypeId} (j : Nat) (h : W.heap[d]? = some (.cells L.toArray t (0, 0))) : W.frozen? ⟨d, j, none⟩ = false := by
  simp [World.frozen?, h]
theorem block_set {W : World} {d : Nat} {L : List Value} {t : TypeId} (j : Nat) (v : Value) (h : W.heap[d]? = some (.cells L.toArray t (0, 0))) : (W.setCell ⟨d, j, none⟩ v).heap[d]? = some (.cells (L.toArray.setIfInBounds j v) t (0, 0)) := by
  obtain ⟨hlt, hk⟩ := Array.getElem?_eq_some_iff.1 h
  show (W.heap.modify d _)[d]? = _
  rw [Array.getElem?_eq_getElem (by rw [Array.size_modify]; exact hlt), Array.getElem_modify_self, hk]
  rfl

theorem Shift.drewN {lo hi : Nat} {A B : World} (q : Nat) (h : Shift lo hi A B) : Shift lo hi A (B.drewN q) := ⟨h.os, h.tape, h.output, h.size, h.block⟩

set_option maxHeartbeats 400000 in
theorem tuples_seq (n m Br g : Nat) (hn : 1 ≤ n) (hm : m ≤ 10) (w : World) (hBr : Boxed w Br 31 (.slice (some ⟨g, 0, none⟩) m m)) (hg : w.heap[g]? = some (.cells (twos m m).toArray 3 (0, 0))) :
    SeqK Fence.wide n Yba.prog 20 #[.pointer (some ⟨Br, 0, none⟩)] (2 ^ m) (fun lo hi b => b = Br ∨ b = g ∨ (lo ≤ b ∧ b < hi))
      (fun lo hi k v W => lo < hi ∧ v = .slice (some ⟨hi - 1, 0, none⟩) m m ∧ W.heap[hi - 1]? = some (.cells (digV m k).toArray 3 (0, 0))) w := by
  intro l J Jx W hW hJ hJx hY h0
  refine callsIn_of_wp Yba.func20 rfl trivial ?_ rfl
  simp only [Yba.ntmps20, List.size_toArray, List.length_cons, List.length_nil, Nat.reduceAdd, Nat.reduceSub, Array.replicate_succ, Array.replicate_zero, List.push_toArray, List.append_toArray, List.nil_append, List.cons_append]
  have hBW : Boxed W Br 31 (.slice (some ⟨g, 0, none⟩) m m) := (hW.block Br hBr.lt).trans hBr
  have hgW : W.heap[g]? = some (.cells (twos m m).toArray 3 (0, 0)) := (hW.block g (Array.getElem?_eq_some_iff.1 hg).1).trans hg
  have hgl : g < W.heap.size := (Array.getElem?_eq_some_iff.1 hgW).1
  have hc := hBW.cell
  have hg2 : ∀ (X : World), X.heap[g]? = some (.cells (twos m m).toArray 3 (0, 0)) → ∀ j, j < m → X.cell? ⟨g, j, none⟩ = some (.int .i64 2) := by
    intro X hX j hj
    have := twos_get m m j hj
    simp only [World.cell?, hX]
    simpa using this
  have HG2 : Hid (∀ (X : World), X.heap[g]? = some (.cells (twos m m).toArray 3 (0, 0)) → ∀ j, j < m → X.cell? ⟨g, j, none⟩ = some (.int .i64 2)) := hg2
  clear hg2
  have hmk := make_ints m (by omega)
  have hwide : ∀ f, Fence.wide.fn f := fun _ => trivial
  gi_wp2_with (gi_at_call 21; refine (callsIn_wide.2 (contains_twos m hm g _ (HG2.out _ hgW))).mono ?_; rintro e w' ⟨rfl, hw'⟩; rw [hw'])
  clear hc hmk
  gi_loopw [4] (fun _ wr => ∃ k, k < 2 ^ m ∧ Hid (wr.heap[W.heap.size]? = some (.cells (digV m k).toArray 3 (0, 0))) ∧ Boxed wr Br 31 (.slice (some ⟨g, 0, none⟩) m m) ∧ Hid (wr.heap[g]? = some (.cells (twos m m).toArray 3 (0, 0))) ∧ J (W.heap.size + 1) k wr)
    (fun _ wr => 2 ^ m - numAt wr W.heap.size)
  case atStart =>
    refine ⟨0, Nat.pow_pos (by omega), ?_, hBW.alloc _, ?_, hJ _ _ _ _ (h0 _ (by omega)) ((Shift.refl _ _ W).alloc _)⟩
    · show _ = _
      rw [digV_zero]; exact heap_alloc_new _ _
    · exact (Below.heap_alloc _ _ _ (Array.getElem?_eq_some_iff.1 hgW).1).trans hgW
  case round =>
    obtain ⟨k, hk, hd, hB1, hg1, hJ1⟩ := hrel
    obtain ⟨fn, tmps, assign, body, hy, hR⟩ := hY (W.heap.size + 1) k _ wr (by omega) hk hJ1 ⟨by omega, rfl, hd.out⟩
    simp only [Nat.add_sub_cancel] at hy
    gi_wp2
    refine hR.mono ?_
    rintro e W3 (⟨rfl, hJ3, hk3⟩ | ⟨rfl, hJx3, _⟩)
    · have hd3 : W3.heap[W.heap.size]? = some (.cells (digV m k).toArray 3 (0, 0)) := hk3.block (.inr (.inr ⟨Nat.le_refl _, by omega⟩)) hd.out
      have hB3 : Boxed W3 Br 31 (.slice (some ⟨g, 0, none⟩) m m) := hk3.block (.inl rfl) hB1
      have hg3 : W3.heap[g]? = some (.cells (twos m m).toArray 3 (0, 0)) := hk3.block (.inr (.inl rfl)) hg1.out
      have HD3 : Hid (W3.heap[W.heap.size]? = some (.cells (digV m k).toArray 3 (0, 0))) := hd3
      have HG3 : Hid (W3.heap[g]? = some (.cells (twos m m).toArray 3 (0, 0))) := hg3
      clear hd3 hg3
      gi_wp2
      gi_loopw [4] (fun i wr => ∃ t : Nat, t ≤ m ∧ i = .int .i64 ((t : Int) - 1) ∧ Hid (Bits.Ones m k t) ∧ Hid (wr.heap[W.heap.size]? = some (.cells (midV m k t).toArray 3 (0, 0))) ∧ Boxed wr Br 31 (.slice (some ⟨g, 0, none⟩) m m) ∧ Hid (wr.heap[g]? = some (.cells (twos m m).toArray 3 (0, 0))) ∧ J (W.heap.size + 1) (k + 1) wr)
        (fun i _ => (intOf i + 1).toNat)
      case atStart =>
        refine ⟨m, Nat.le_refl _, rfl, Bits.ones_start m k, ?_, hB3, HG3, hJ3⟩
        rw [mid_all]; exact HD3
      case round =>
        obtain ⟨t, ht, rfl, hO, hd4, hB4, hg4, hJ4⟩ := hrel
        by_cases h0 : t = 0
        · subst h0
          have hz : decide ((0 : Int) ≤ ((0 : Nat) : Int) - 1) = false := by decide
          gi_wp2
          gi_quiet (fail)
          gi_wp2
          refine bodyPost_ret (results_none rfl _ _ _) rfl ?_
          refine ⟨⟨_, rfl⟩, W.heap.size + 1, by omega, .inl ?_⟩
          rw [← Bits.ones_all m k hO.out hk]
          exact hJ _ _ _ _ hJ4 (Shift.drewN _ (Shift.refl _ _ wr))
        · obtain ⟨t, rfl⟩ : ∃ t', t = t' + 1 := ⟨t - 1, by omega⟩
          have hdc := block_cell hd4.out (midV_get m k (t + 1) t (by omega))
          have hrc := HG2.out _ hg4.out t (by omega)
          have hbc := hB4.cell
          have e1 : (((t + 1 : Nat) : Int) - 1) = (t : Int) := by omega
          rw [e1]
          have hdf := block_frozen t hd4.out
          have hmid : Bits.mid m k (t + 1) t = Bits.bit m k t := by simp [Bits.mid]
          rw [hmid] at hdc
          clear hmid e1
          have hlt := Bits.bit_lt m k t
          by_cases hb : Bits.bit m k t = 1
          · have HB : Hid (Bits.bit m k t = 1) := hb
            rw [hb] at hdc
            clear hb hlt
            gi_wp2
            gi_quiet (fail)
            gi_wp2
            refine ⟨⟨t, by omega, rfl, Bits.ones_step m k t hO.out (by omega) HB.out, ?_, ?_, ?_, ?_⟩, by simp [intOf]⟩
            · have h := block_set (W := wr.drewN nq) t (.int .i64 0) hd4.out
              rw [midV_clear m k t (by omega)] at h
              exact h
            · exact (Below.heap_setCell _ _ _ _ (by have := hBW.lt; simp; omega)).trans hB4
            · exact (Below.heap_setCell _ _ _ _ (by simp; omega)).trans hg4.out
            · exact hJ _ _ _ _ hJ4 ((Shift.drewN _ (Shift.refl _ _ wr)).setCell (p := ⟨W.heap.size, t, none⟩) (.inl ⟨Nat.le_refl _, Nat.lt_succ_self _⟩) _)
          · have hb0 : Bits.bit m k t = 0 := by omega
            have HB : Hid (Bits.bit m k t = 0) := hb0
            rw [hb0] at hdc
            clear hb hb0 hlt
            gi_wp2
            gi_quiet (fail)
            gi_wp2
            have hst := Bits.step_lt m k t hO.out (by omega) HB.out hk
            have hnew : ((wr.drewN nq).setCell ⟨W.heap.size, t, none⟩ (.int .i64 1)).heap[W.heap.size]? = some (.cells (digV m (k + 1)).toArray 3 (0, 0)) := by
              have h := block_set (W := wr.drewN nq) t (.int .i64 1) hd4.out
              rw [midV_raise m k t (by omega) hO.out HB.out] at h
              exact h
            refine ⟨⟨k + 1, hst, hnew, ?_, ?_, ?_⟩, ?_⟩
            · exact (Below.heap_setCell _ _ _ _ (by have := hBW.lt; simp; omega)).trans hB4
            · exact (Below.heap_setCell _ _ _ _ (by simp; omega)).trans hg4.out
            · exact hJ _ _ _ _ hJ4 ((Shift.drewN _ (Shift.refl _ _ wr)).setCell (p := ⟨W.heap.size, t, none⟩) (.inl ⟨Nat.le_refl _, Nat.lt_succ_self _⟩) _)
            · show 2 ^ m - numAt _ W.heap.size < 2 ^ m - numAt _ W.heap.size
              rw [numAt_of hst hnew, numAt_of hk hd.out]; omega
    · gi_wp2
      go_end0
      exact ⟨⟨_, rfl⟩, W.heap.size + 1, by omega, .inr ⟨k + 1, by omega, hJx3⟩⟩
end Go.Proofs.Ybulkdpc
