/-
  The iterator that assignments hands back: its contract.
-/
import Derived.Test.YbulkdpcTuples
namespace Go.Proofs.Ybulkdpc
open Go.RowKit Go.Shelf
attribute [local go_sem] Oper.semAt_some

set_option maxHeartbeats 400000 in
theorem assignments_calls (m : Int) (w : World) :
    Calls Yba.prog 7 #[.int .i64 m] w fun e w' => e = .returned (.func (.func 13) #[] #[.pointer (some ⟨w.heap.size, 0, none⟩)]) ∧ w' = w.alloc (.cells #[.int .i64 m] 3) := by
  go_enter Yba.func7, Yba.ntmps7
  go_wp2
  go_ret
  exact ⟨rfl, rfl⟩
set_option maxHeartbeats 400000 in
theorem tuples_calls (a : Option Addr) (len cap : Nat) (w : World) :
    Calls Yba.prog 14 #[.slice a len cap] w fun e w' => e = .returned (.func (.func 20) #[] #[.pointer (some ⟨w.heap.size, 0, none⟩)]) ∧ w' = w.alloc (.cells #[.slice a len cap] 31) := by
  go_enter Yba.func14, Yba.ntmps14
  go_wp2
  go_ret
  exact ⟨rfl, rfl⟩
theorem round_any {P : Program} {n n' l l' : Nat} {f : FuncId} {tmps : Array Value} {assign body : Code} {w : World} {R : Ending → World → Prop} (h : RoundIn Fence.wide n P l f tmps assign body w R) :
    RoundIn (Fence.wide.inRound l') n' P l f tmps assign body w R := ⟨h.1, fun c cs _ => h.2 c cs (room_wide _)⟩

/-- 'make([]int64, m)'. -/
theorem make_int64s (m : Nat) (hm : m ≤ 1000) (w : World) :
    (Instr.makeSlice 26 (.int .i64 (m : Int)) (.int .i64 (m : Int))).run Yba.prog w = .ok (.slice (some ⟨w.heap.size, 0, none⟩) m m) (w.alloc (.cells (List.replicate m (Value.int .i64 0)).toArray 2)) := by
  obtain ⟨i, hi, hz0, hz1, hz2⟩ := info_parts info2
  have h := run_make (P := Yba.prog) w 26 2 i (.int .i64 0) Yba.underlying26 hi hz0 .i64 .i64 m m (by omega) (by omega) (by rw [hz2]; omega) (by omega)
  rw [h]
  simp only [Int.toNat_natCast, hz1, Nat.mul_one]
  congr 2
  rw [← toList_madeCells_one]; rfl

theorem Kept.of_below {T : Nat → Prop} {A B : World} {n : Nat} (h : Below n A B) (hT : ∀ k, T k → k < n) : Kept T A B := ⟨h.size, fun k hk => h.block k (hT k hk)⟩
/-- The first j digits are over. -/
def partV (m k j : Nat) : List Value := (List.range m).map fun i => .int .i64 (if i < j then ((Bits.bit m k i : Nat) : Int) else 0)
theorem partV_zero (m k : Nat) : partV m k 0 = List.replicate m (Value.int .i64 0) := by simp [partV, List.map_const']
theorem partV_all (m k : Nat) : partV m k m = digV m k := by
  unfold partV digV
  apply List.map_congr_left
  intro j hj
  have : j < m := by simpa using hj
  simp [this]
theorem partV_set (m k j : Nat) (hj : j < m) : (partV m k j).toArray.setIfInBounds j (.int .i64 ((Bits.bit m k j : Nat) : Int)) = (partV m k (j + 1)).toArray := by
  apply Array.ext'
  apply List.ext_getElem?
  intro i
  simp only [Array.toList_setIfInBounds, List.getElem?_set]
  by_cases e : j = i
  · subst e; simp [partV, hj]
  · by_cases hi : i < m
    · have : (i < j + 1) ↔ (i < j) := by omega
      simp [partV, hi, e, this]
    · simp [partV, hi, e]
theorem partV_get (m k t j : Nat) (hj : j < m) : (partV m k t)[j]? = some (.int .i64 (if j < t then ((Bits.bit m k j : Nat) : Int) else 0)) := by simp [partV, hj]
theorem digV_get (m k j : Nat) (hj : j < m) : (digV m k)[j]? = some (.int .i64 ((Bits.bit m k j : Nat) : Int)) := by simp [digV, hj]

set_option maxHeartbeats 1000000 in
theorem assign_seq (n m Bn : Nat) (hn : 5 ≤ n) (hm : m ≤ 10) (w : World) (hBn : Boxed w Bn 3 (.int .i64 m)) :
    SeqK Fence.wide n Yba.prog 13 #[.pointer (some ⟨Bn, 0, none⟩)] (2 ^ m) (fun lo hi b => b = Bn ∨ (lo ≤ b ∧ b < hi))
      (fun _ hi k v W => ∃ b, hi ≤ b ∧ v = .slice (some ⟨b, 0, none⟩) m m ∧ W.heap[b]? = some (.cells (digV m k).toArray 2 (0, 0))) w := by
  intro l J Jx W hW hJ hJx hY h0
  refine callsIn_of_wp_marks Yba.func13 rfl trivial ?_ rfl
  simp only [Yba.ntmps13, List.size_toArray, List.length_cons, List.length_nil, Nat.reduceAdd, Nat.reduceSub, Array.replicate_succ, Array.replicate_zero, List.push_toArray, List.append_toArray, List.nil_append, List.cons_append]
  have hBW : Boxed W Bn 3 (.int .i64 m) := (hW.block Bn hBn.lt).trans hBn
  have hc := hBW.cell
  have hBl := hBW.lt
  have h1 : 1 ≤ n := by omega
  have hwide : ∀ f, Fence.wide.fn f := fun _ => trivial
  gi_wp2_with (first
    | (gi_at_call 15; refine (callsIn_wide.2 (repeat_two m hm (W.heap.size + 1) _ (by have h := Boxed.new (W.alloc (.cells #[.func (.yield l) #[] #[]] 44)) 3 (.int .i64 2); rw [World.size_alloc] at h; exact h.cell) (by simp))).mono ?_; rintro e w1 ⟨rfl, hg1, hb1⟩)
    | (gi_at_call 14; refine (callsIn_wide.2 (tuples_calls _ _ _ _)).mono ?_; rintro e w2 ⟨rfl, hw2⟩; rw [hw2])
    | fail)
  clear hw2 w2
  have hsz1 : W.heap.size + 2 ≤ w1.heap.size := by have := hb1.size; simpa using this
  simp only [World.size_alloc] at hg1 hb1
  have hY1 : Boxed w1 W.heap.size 44 (.func (.yield l) #[] #[]) := (hb1.block _ (by omega)).trans ((Boxed.new W 44 _).alloc _)
  have hN1 : Boxed w1 Bn 3 (.int .i64 m) := (hb1.block _ (by omega)).trans ((hBW.alloc _).alloc _)
  have hbW : Below W.heap.size W w1 := (((Below.refl _ W).alloc (Nat.le_refl _) _).alloc (by simp) _).trans (hb1.mono (by omega))
  obtain ⟨w2, hw2⟩ : ∃ w2, w1.alloc (.cells #[.slice (some ⟨W.heap.size + 1 + 1, 0, none⟩) m m] 31) = w2 := ⟨_, rfl⟩
  have hBr : Boxed w2 w1.heap.size 31 (.slice (some ⟨W.heap.size + 1 + 1, 0, none⟩) m m) := by rw [← hw2]; exact Boxed.new _ _ _
  have hg2 : w2.heap[W.heap.size + 1 + 1]? = some (.cells (twos m m).toArray 3 (0, 0)) := by
    rw [← hw2]; exact (Below.heap_alloc _ _ _ (Array.getElem?_eq_some_iff.1 hg1).1).trans hg1
  have hsz2 : w1.heap.size < w2.heap.size := by rw [← hw2]; simp
  have hY2 : Boxed w2 W.heap.size 44 (.func (.yield l) #[] #[]) := by rw [← hw2]; exact hY1.alloc _
  have hN2 : Boxed w2 Bn 3 (.int .i64 m) := by rw [← hw2]; exact hN1.alloc _
  have hbW2 : Below W.heap.size W w2 := by rw [← hw2]; exact hbW.alloc (by omega) _
  rw [hw2]
  have hgl : W.heap.size + 1 + 1 < w1.heap.size := (Array.getElem?_eq_some_iff.1 hg1).1
  clear hg1 hb1 hY1 hN1 hbW hw2
  refine wpIn_rangeFunc_shift (F := Fence.wide) rfl h1 (gf := 20) (lb := #[.pointer (some ⟨w1.heap.size, 0, none⟩)]) rfl trivial (enters_of Yba.func20 (by kernel_rfl) rfl)
    (tuples_seq (n - 1) m w1.heap.size (W.heap.size + 1 + 1) (by omega) hm w2 hBr hg2) rfl
    (fun hi k X => J hi k X ∧ Boxed X W.heap.size 44 (.func (.yield l) #[] #[]) ∧ Boxed X Bn 3 (.int .i64 m))
    (fun c hi k X => c = .ret ∧ Jx hi k X)
    (fun hi k A B hs hg => ⟨hJ hi k A B hs.1 (hg.mono (by omega) (Nat.le_refl _)), hg.same hs.2.1 (by omega), hg.same hs.2.2 (by omega)⟩)
    (fun c hi k A B hs hg => ⟨hs.1, hJx hi k A B hs.2 (hg.mono (by omega) (Nat.le_refl _))⟩)
    (fun hi k v A B hh hs hg => ⟨hs.1, hs.2.1, hg.same hs.2.2 (by have := hs.1; omega)⟩)
    (fun hi => ⟨by omega, by omega⟩)
    (fun hi hh => ⟨hJ hi 0 W w2 (h0 hi (by omega)) (Shift.of_below hbW2 (Nat.le_refl _)), hY2, hN2⟩)
    (fun v => { tmps := #[.func (.yield l) #[] #[], .pointer (some ⟨Bn, 0, none⟩), .pointer (some ⟨W.heap.size, 0, none⟩), v, undef, undef, undef, .slice (some ⟨W.heap.size + 1, 0, none⟩) 1 1, .int .i64 m, .slice (some ⟨W.heap.size + 1 + 1, 0, none⟩) m m, .func (.func 20) #[] #[.pointer (some ⟨w1.heap.size, 0, none⟩)], v, undef, undef, undef, undef, undef, undef, undef, undef, undef, undef, undef, undef, undef, undef, undef, undef, undef, undef], defers := [] })
    ?assign ?body ?done ?stop
  case assign =>
    intro l x X K hK
    gi_wp2
    exact hK
  case body =>
    rintro hi k v X hhi hkN ⟨hJ1, hY3, hN3⟩ ⟨hlh, rfl, hd⟩
    have hc3 := hN3.cell
    have hmk := make_int64s m (by omega)
    have hdl : hi - 1 < X.heap.size := (Array.getElem?_eq_some_iff.1 hd).1
    have HD : Hid (X.heap[hi - 1]? = some (.cells (digV m k).toArray 3 (0, 0))) := hd
    clear hd hc
    gi_wp2
    gi_loopw [16] (fun i wr => ∃ j : Nat, j ≤ m ∧ i = .int .i64 j ∧ Hid (wr.heap[X.heap.size]? = some (.cells (partV m k j).toArray 2 (0, 0))) ∧ Below X.heap.size X wr) (fun i _ => m - (intOf i).toNat)
    case atStart =>
      refine ⟨0, Nat.zero_le _, rfl, ?_, (Below.refl _ X).alloc (Nat.le_refl _) _⟩
      show _ = _
      rw [partV_zero]; exact heap_alloc_new _ _
    case round =>
      obtain ⟨j, hj, rfl, hp, hB⟩ := hrel
      by_cases hlt : j < m
      · have hdc : wr.cell? ⟨hi - 1, j, none⟩ = some (.int .i64 ((Bits.bit m k j : Nat) : Int)) := (hB.cell (p := ⟨hi - 1, j, none⟩) hdl).trans (block_cell HD.out (digV_get m k j hlt))
        have hpc := block_cell hp.out (partV_get m k j j hlt)
        have hpf := block_frozen j hp.out
        gi_wp2
        refine ⟨⟨j + 1, by omega, by go_num, ?_, hB.setCell (p := ⟨X.heap.size, j, none⟩) (Nat.le_refl _) _⟩, by simp [intOf]; omega⟩
        have h := block_set (W := wr) j (.int .i64 ((Bits.bit m k j : Nat) : Int)) hp.out
        rw [partV_set m k j hlt] at h
        exact h
      · have e : j = m := by omega
        have hY4 : Boxed wr W.heap.size 44 (.func (.yield l) #[] #[]) := (hB.block _ (by omega)).trans hY3
        have hyc := hY4.cell
        have hp2 : wr.heap[X.heap.size]? = some (.cells (digV m k).toArray 2 (0, 0)) := by have h := hp.out; rw [e, partV_all] at h; exact h
        obtain ⟨fn, tmps, assign, body, hy, hR⟩ := hY hi k (.slice (some ⟨X.heap.size, 0, none⟩) m m) wr (by omega) hkN (hJ _ _ _ _ hJ1 (Shift.of_below hB (Nat.le_refl _))) ⟨X.heap.size, by omega, rfl, hp2⟩
        clear hp2 e
        gi_wp2
        refine ⟨fun _ => by omega, (round_any hR).mono ?_⟩
        rintro e W3 (⟨rfl, hJ3, hk3⟩ | ⟨rfl, hJx3, hk3⟩)
        · have hK1 : Kept (fun b => b = Bn ∨ (W.heap.size ≤ b ∧ b < hi)) X W3 := (Kept.of_below hB (fun b hb => by omega)).trans hk3
          gi_wp2
          exact ⟨hK1.mono (fun b hb => by omega), hK1.mono (fun b hb => by omega), hJ3, hK1.block (.inr ⟨Nat.le_refl _, by omega⟩) hY3, hK1.block (.inl rfl) hN3⟩
        · have hK1 : Kept (fun b => b = Bn ∨ (W.heap.size ≤ b ∧ b < hi)) X W3 := (Kept.of_below hB (fun b hb => by omega)).trans hk3
          gi_wp2
          exact ⟨hK1.mono (fun b hb => by omega), hK1.mono (fun b hb => by omega), rfl, hJx3⟩
  case done =>
    rintro hi X hhi ⟨hJ1, _, _⟩ hK
    gi_wp2
    refine ⟨by simp, .inl ⟨_, _, rfl, run_takeDeferred hK, ?_⟩⟩
    exact ⟨_, results_none rfl _ _ _, ⟨_, rfl⟩, hi, by omega, .inl (hJ _ _ _ _ hJ1 ((Shift.refl _ _ X).putObj _ ⟨by omega, by omega⟩))⟩
  case stop =>
    rintro hi c k X hhi hkN ⟨rfl, hJ1⟩ hK
    gi_wp2
    refine ⟨by simp, .inl ⟨_, _, rfl, run_takeDeferred hK, ?_⟩⟩
    exact ⟨_, results_none rfl _ _ _, ⟨_, rfl⟩, hi, by omega, .inr ⟨k, hkN, hJx _ _ _ _ hJ1 ((Shift.refl _ _ X).putObj _ ⟨by omega, by omega⟩)⟩⟩
end Go.Proofs.Ybulkdpc
