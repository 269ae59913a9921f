/-
  The law LawS0223BStop, walked.
-/
import Derived.Test.YbulkdpcBinary
import Derived.Test.YbulkdpcQuietRound
namespace Go.Proofs.Ybulkdpc
open Go.RowKit Go.Shelf
attribute [local go_sem] Oper.semAt_some
set_option linter.unusedVariables false

/-- What the law holds between two rounds: k have come, each was right. -/
def CntInv (w : World) (m S k : Nat) (X : World) : Prop :=
  Boxed X w.heap.size 4 (.bool false) ∧ Boxed X (w.heap.size + 1) 3 (.int .i64 (m : Int)) ∧ Boxed X (w.heap.size + 1 + 1) 3 (.int .i64 (S : Int)) ∧ Boxed X (w.heap.size + 1 + 1 + 1) 3 (.int .i64 (k : Int)) ∧ Below w.heap.size w X

theorem CntInv.shift {w : World} {m S hi k : Nat} {A B : World} {lo : Nat} (h : CntInv w m S k A) (hlo : w.heap.size + 4 ≤ lo) (hs : Shift lo hi A B) : CntInv w m S k B := by
  obtain ⟨h1, h2, h3, h4, h7⟩ := h
  have hl := h4.lt
  exact ⟨hs.same h1 (by omega), hs.same h2 (by omega), hs.same h3 (by omega), hs.same h4 (by omega), hs.below h7 (by omega) (by omega)⟩

theorem CntInv.count {w : World} {m S k : Nat} {X : World} (q : Nat) (h : CntInv w m S k X) (v : Value) (hv : v = .int .i64 ((k + 1 : Nat) : Int)) : CntInv w m S (k + 1) ((X.drewN q).setCell ⟨w.heap.size + 1 + 1 + 1, 0, none⟩ v) := by
  obtain ⟨h1, h2, h3, h4, h7⟩ := h
  subst hv
  have hset : ∀ c, c ≠ w.heap.size + 1 + 1 + 1 → ((X.drewN q).setCell ⟨w.heap.size + 1 + 1 + 1, 0, none⟩ (.int .i64 ((k + 1 : Nat) : Int))).heap[c]? = X.heap[c]? := fun c hc => Below.heap_setCell (X.drewN q) _ _ c hc
  exact ⟨(hset _ (by omega)).trans h1, (hset _ (by omega)).trans h2, (hset _ (by omega)).trans h3, Boxed.set (W := X.drewN q) _ h4, (below_drewN h7 q).setCell (p := ⟨w.heap.size + 1 + 1 + 1, 0, none⟩) (by simp; omega) _⟩

set_option maxHeartbeats 1000000 in
theorem stop_in_lt (n : Nat) (hn : 8 ≤ n) (a0 a1 : Int) (hb1 : 0 ≤ a0) (hb2 : a0 ≤ 255) (hb3 : 0 ≤ a1) (hb4 : a1 ≤ 65535) (m : Nat) (hm : m ≤ 10) (hm0 : a0 % 11 = (m : Int)) (N : Nat) (HN : Hid (N = 2 ^ m))
    (S : Nat) (hS : 1 + a1 % ((N : Int) + 1) = (S : Int)) (hS1 : 1 ≤ S) (hS2 : S ≤ N + 1) (hway : N < S) (w : World) :
    CallsIn Fence.wide n Yba.prog 4 #[.int .u8 a0, .int .u16 a1] w fun e w' => e = .returned (.bool true) ∧ Below w.heap.size w w' := by
  have h1 : 1 ≤ n := by omega
  have hwide : ∀ f, Fence.wide.fn f := fun _ => trivial
  have hN : N ≤ 1024 := by rw [HN.out]; exact pow_small m hm
  have hsh := shl_small m N hm HN.out
  refine callsIn_of_wp_marks Yba.func4 rfl trivial ?_ rfl
  simp only [Yba.ntmps4, List.size_toArray, List.length_cons, List.length_nil, Nat.reduceAdd, Nat.reduceSub, Array.replicate_succ, Array.replicate_zero, List.push_toArray, List.append_toArray, List.nil_append, List.cons_append]
  gi_wp2_with (first
    | (gi_at_call 7; refine (callsIn_wide.2 (assignments_calls _ _)).mono ?_; rintro e w1 ⟨rfl, hw1⟩; rw [hw1]; clear hw1 w1)
    | fail)
  obtain ⟨w4, hw4⟩ : ∃ w4, ((((w.alloc (.cells #[.bool false] 4)).alloc (.cells #[.int .i64 (m : Int)] 3)).alloc (.cells #[.int .i64 (S : Int)] 3)).alloc (.cells #[.int .i64 0] 3)).alloc (.cells #[.int .i64 (m : Int)] 3) = w4 := ⟨_, rfl⟩
  have hle : w.heap.size + 5 ≤ w4.heap.size := by rw [← hw4]; simp
  have hBn : Boxed w4 (w.heap.size + 1 + 1 + 1 + 1) 3 (.int .i64 (m : Int)) := by
    rw [← hw4]
    have h := Boxed.new ((((w.alloc (.cells #[.bool false] 4)).alloc (.cells #[.int .i64 (m : Int)] 3)).alloc (.cells #[.int .i64 (S : Int)] 3)).alloc (.cells #[.int .i64 0] 3)) 3 (.int .i64 (m : Int))
    simpa using h
  have hI0 : CntInv w m S 0 w4 := by
    rw [← hw4]
    have b0 := Boxed.new w 4 (.bool false)
    have b1 := Boxed.new (w.alloc (.cells #[.bool false] 4)) 3 (.int .i64 (m : Int))
    have b2 := Boxed.new ((w.alloc (.cells #[.bool false] 4)).alloc (.cells #[.int .i64 (m : Int)] 3)) 3 (.int .i64 (S : Int))
    have b3 := Boxed.new (((w.alloc (.cells #[.bool false] 4)).alloc (.cells #[.int .i64 (m : Int)] 3)).alloc (.cells #[.int .i64 (S : Int)] 3)) 3 (.int .i64 0)
    simp only [World.size_alloc] at b1 b2 b3
    exact ⟨(((b0.alloc _).alloc _).alloc _).alloc _, ((b1.alloc _).alloc _).alloc _, (b2.alloc _).alloc _, b3.alloc _, (((((Below.refl _ w).alloc (Nat.le_refl _) _).alloc (by simp) _).alloc (by simp; omega) _).alloc (by simp; omega) _).alloc (by simp; omega) _⟩
  rw [hw4]
  clear hw4
  have hseq := assign_seq (n - 1) m (w.heap.size + 1 + 1 + 1 + 1) (by omega) hm w4 hBn
  rw [← HN.out] at hseq
  refine wpIn_rangeFunc_shift (F := Fence.wide) rfl h1 (gf := 13) (lb := #[.pointer (some ⟨w.heap.size + 1 + 1 + 1 + 1, 0, none⟩)]) rfl trivial (enters_of Yba.func13 (by kernel_rfl) rfl)
    hseq rfl
    (fun hi k X => k < S ∧ CntInv w m S k X)
    (fun c hi k X => c = .exit 0 ∧ k = S ∧ CntInv w m S k X)
    (fun hi k A B hs hg => ⟨hs.1, hs.2.shift (by omega) hg⟩)
    (fun c hi k A B hs hg => ⟨hs.1, hs.2.1, hs.2.2.shift (by omega) hg⟩)
    (fun hi k v A B hh hs hg => by obtain ⟨b, hb, hv, hc⟩ := hs; exact ⟨b, hb, hv, hg.same hc (by omega)⟩)
    (fun hi => ⟨by omega, by omega⟩)
    (fun hi hh => ⟨by omega, hI0⟩)
    (fun v => { tmps := #[.int .u8 a0, .int .u16 a1, undef, undef, .pointer (some ⟨w.heap.size, 0, none⟩), .pointer (some ⟨w.heap.size + 1, 0, none⟩), .int .i64 N, .pointer (some ⟨w.heap.size + 1 + 1, 0, none⟩), .int .i64 N, .pointer (some ⟨w.heap.size + 1 + 1 + 1, 0, none⟩), v, undef, .int .u8 a0, .int .i64 a0, .int .i64 m, .int .i64 m, .int .i64 N, .int .u16 a1, .int .i64 a1, .int .i64 N, .int .i64 ((N : Int) + 1), .int .i64 (a1 % ((N : Int) + 1)), .int .i64 S, .int .i64 S, .int .i64 S, .int .i64 N, .bool true, .int .i64 N, .int .i64 m, .func (.func 13) #[] #[.pointer (some ⟨w.heap.size + 1 + 1 + 1 + 1, 0, none⟩)], v, undef, undef, undef, undef, undef, undef, undef, undef, undef, undef, undef, undef, undef, undef, undef, undef, undef, undef, undef, undef, undef, undef, undef, undef, undef, undef, undef, undef, undef], defers := [] })
    ?assign ?body ?done ?stop
  case assign =>
    intro l x X K hK
    gi_wp2
    exact hK
  case body =>
    rintro hi k v X hhi hkN ⟨hkS, hI⟩ ⟨b, hb, rfl, hd⟩
    have hI' := hI
    obtain ⟨hv0, hv1, hv2, hv3, hB⟩ := hI
    have hc1 := hv1.cell
    have hc2 := hv2.cell
    have hc3 := hv3.cell
    have hf3 := hv3.frozen
    have hbl : b < X.heap.size := (Array.getElem?_eq_some_iff.1 hd).1
    have HD : Hid (X.heap[b]? = some (.cells (digV m k).toArray 2 (0, 0))) := hd
    clear hd hsh hS hseq
    gi_wp2
    gi_loopw [11] (fun j wr => ∃ t : Nat, t ≤ m ∧ j = .int .i64 t ∧ ∃ q, wr = X.drewN q) (fun j _ => m - (intOf j).toNat)
    case atStart => exact ⟨0, Nat.zero_le _, rfl, 0, rfl⟩
    case round =>
      obtain ⟨t, ht, rfl, q2, rfl⟩ := hrel
      by_cases htm : t < m
      · have hcj := block_cell HD.out (digV_get m k t htm)
        have htest : (((Bits.bit m k t : Nat) : Int) != bits .and .i64 ((k : Int) / 2 ^ (m - 1 - t)) 1) = false := by rw [and_bit m k t (by omega)]; simp
        gi_wp2
        refine region_quiet_round rfl (by kernel_rfl) (by kernel_rfl) ?_
        repeat (gi_big_quiet_step (fail))
        refine wpQuietIn_nil ?_
        rintro _ ⟨nq, rfl⟩
        gi_wp2
        exact ⟨⟨t + 1, by omega, by go_num, _, rfl⟩, by simp [intOf]; omega⟩
      · have hnew := hI'.count q2 (.int .i64 ((k : Int) + 1)) (by simp)
        have hsz3 : X.heap.size ≤ ((X.drewN q2).setCell ⟨w.heap.size + 1 + 1 + 1, 0, none⟩ (.int .i64 ((k : Int) + 1))).heap.size := by simp [World.setCell]
        have hKp : Kept (fun c => c ≠ w.heap.size + 1 + 1 + 1) X ((X.drewN q2).setCell ⟨w.heap.size + 1 + 1 + 1, 0, none⟩ (.int .i64 ((k : Int) + 1))) := ⟨hsz3, fun c hc => Below.heap_setCell (X.drewN q2) _ _ c hc⟩
        have hn3 := hnew.2.2.2.1.cell
        have hn2 := hnew.2.2.1.cell
        clear hsz3
        by_cases hend : k + 1 < S
        · gi_wp2
          exact ⟨hKp.mono (fun c hc => by omega), hKp.mono (fun c hc => by omega), hend, hnew⟩
        · omega
  case done =>
    rintro hi X hhi ⟨hkS, hv0, hv1, hv2, hv3, hB⟩ hK
    have hc3 := hv3.cell
    have hc0 := hv0.cell
    have hf0 := hv0.frozen
    have hlt0 := hv0.lt
    clear hsh hS hseq
    gi_wp2
    refine ⟨by simp, .inl ⟨_, _, rfl, run_takeDeferred (by exact (Below.heap_setCell _ _ _ _ (by simp; omega)).trans hK), ?_⟩⟩
    have hne : w4.heap.size ≠ w.heap.size := by omega
    have hfin : ((X.setCell ⟨w.heap.size, 0, none⟩ (.bool true)).putObj w4.heap.size (.deferred none)).cell? ⟨w.heap.size, 0, none⟩ = some (.bool true) := by
      have h2 : Boxed ((X.setCell ⟨w.heap.size, 0, none⟩ (.bool true)).putObj w4.heap.size (.deferred none)) w.heap.size 4 (.bool true) := (World.putObj_heap_other (Ne.symm hne)).trans (Boxed.set _ hv0)
      exact h2.cell
    refine ⟨.bool true, ?_, rfl, ?_⟩
    · simp [results, Yba.results4, go_sem, hfin]
    · have hb5 : Below w.heap.size w (X.setCell ⟨w.heap.size, 0, none⟩ (.bool true)) := hB.setCell (p := ⟨w.heap.size, 0, none⟩) (Nat.le_refl _) _
      refine ⟨hb5.os, hb5.tape, hb5.output, by have := hb5.size; simpa using this, fun c hc => (World.putObj_heap_other (by omega)).trans (hb5.block c hc)⟩
  case stop =>
    rintro hi c k X hhi hkN ⟨rfl, hkS, hv0, hv1, hv2, hv3, hB⟩ hK
    have hc3 := hv3.cell
    have hc0 := hv0.cell
    have hf0 := hv0.frozen
    have hlt0 := hv0.lt
    clear hsh hS hseq
    omega

set_option maxHeartbeats 1000000 in
theorem stop_in_ge (n : Nat) (hn : 8 ≤ n) (a0 a1 : Int) (hb1 : 0 ≤ a0) (hb2 : a0 ≤ 255) (hb3 : 0 ≤ a1) (hb4 : a1 ≤ 65535) (m : Nat) (hm : m ≤ 10) (hm0 : a0 % 11 = (m : Int)) (N : Nat) (HN : Hid (N = 2 ^ m))
    (S : Nat) (hS : 1 + a1 % ((N : Int) + 1) = (S : Int)) (hS1 : 1 ≤ S) (hS2 : S ≤ N + 1) (hway : ¬ N < S) (w : World) :
    CallsIn Fence.wide n Yba.prog 4 #[.int .u8 a0, .int .u16 a1] w fun e w' => e = .returned (.bool true) ∧ Below w.heap.size w w' := by
  have h1 : 1 ≤ n := by omega
  have hwide : ∀ f, Fence.wide.fn f := fun _ => trivial
  have hN : N ≤ 1024 := by rw [HN.out]; exact pow_small m hm
  have hsh := shl_small m N hm HN.out
  refine callsIn_of_wp_marks Yba.func4 rfl trivial ?_ rfl
  simp only [Yba.ntmps4, List.size_toArray, List.length_cons, List.length_nil, Nat.reduceAdd, Nat.reduceSub, Array.replicate_succ, Array.replicate_zero, List.push_toArray, List.append_toArray, List.nil_append, List.cons_append]
  gi_wp2_with (first
    | (gi_at_call 7; refine (callsIn_wide.2 (assignments_calls _ _)).mono ?_; rintro e w1 ⟨rfl, hw1⟩; rw [hw1]; clear hw1 w1)
    | fail)
  obtain ⟨w4, hw4⟩ : ∃ w4, ((((w.alloc (.cells #[.bool false] 4)).alloc (.cells #[.int .i64 (m : Int)] 3)).alloc (.cells #[.int .i64 (S : Int)] 3)).alloc (.cells #[.int .i64 0] 3)).alloc (.cells #[.int .i64 (m : Int)] 3) = w4 := ⟨_, rfl⟩
  have hle : w.heap.size + 5 ≤ w4.heap.size := by rw [← hw4]; simp
  have hBn : Boxed w4 (w.heap.size + 1 + 1 + 1 + 1) 3 (.int .i64 (m : Int)) := by
    rw [← hw4]
    have h := Boxed.new ((((w.alloc (.cells #[.bool false] 4)).alloc (.cells #[.int .i64 (m : Int)] 3)).alloc (.cells #[.int .i64 (S : Int)] 3)).alloc (.cells #[.int .i64 0] 3)) 3 (.int .i64 (m : Int))
    simpa using h
  have hI0 : CntInv w m S 0 w4 := by
    rw [← hw4]
    have b0 := Boxed.new w 4 (.bool false)
    have b1 := Boxed.new (w.alloc (.cells #[.bool false] 4)) 3 (.int .i64 (m : Int))
    have b2 := Boxed.new ((w.alloc (.cells #[.bool false] 4)).alloc (.cells #[.int .i64 (m : Int)] 3)) 3 (.int .i64 (S : Int))
    have b3 := Boxed.new (((w.alloc (.cells #[.bool false] 4)).alloc (.cells #[.int .i64 (m : Int)] 3)).alloc (.cells #[.int .i64 (S : Int)] 3)) 3 (.int .i64 0)
    simp only [World.size_alloc] at b1 b2 b3
    exact ⟨(((b0.alloc _).alloc _).alloc _).alloc _, ((b1.alloc _).alloc _).alloc _, (b2.alloc _).alloc _, b3.alloc _, (((((Below.refl _ w).alloc (Nat.le_refl _) _).alloc (by simp) _).alloc (by simp; omega) _).alloc (by simp; omega) _).alloc (by simp; omega) _⟩
  rw [hw4]
  clear hw4
  have hseq := assign_seq (n - 1) m (w.heap.size + 1 + 1 + 1 + 1) (by omega) hm w4 hBn
  rw [← HN.out] at hseq
  refine wpIn_rangeFunc_shift (F := Fence.wide) rfl h1 (gf := 13) (lb := #[.pointer (some ⟨w.heap.size + 1 + 1 + 1 + 1, 0, none⟩)]) rfl trivial (enters_of Yba.func13 (by kernel_rfl) rfl)
    hseq rfl
    (fun hi k X => k < S ∧ CntInv w m S k X)
    (fun c hi k X => c = .exit 0 ∧ k = S ∧ CntInv w m S k X)
    (fun hi k A B hs hg => ⟨hs.1, hs.2.shift (by omega) hg⟩)
    (fun c hi k A B hs hg => ⟨hs.1, hs.2.1, hs.2.2.shift (by omega) hg⟩)
    (fun hi k v A B hh hs hg => by obtain ⟨b, hb, hv, hc⟩ := hs; exact ⟨b, hb, hv, hg.same hc (by omega)⟩)
    (fun hi => ⟨by omega, by omega⟩)
    (fun hi hh => ⟨by omega, hI0⟩)
    (fun v => { tmps := #[.int .u8 a0, .int .u16 a1, undef, undef, .pointer (some ⟨w.heap.size, 0, none⟩), .pointer (some ⟨w.heap.size + 1, 0, none⟩), .int .i64 N, .pointer (some ⟨w.heap.size + 1 + 1, 0, none⟩), .int .i64 S, .pointer (some ⟨w.heap.size + 1 + 1 + 1, 0, none⟩), v, undef, .int .u8 a0, .int .i64 a0, .int .i64 m, .int .i64 m, .int .i64 N, .int .u16 a1, .int .i64 a1, .int .i64 N, .int .i64 ((N : Int) + 1), .int .i64 (a1 % ((N : Int) + 1)), .int .i64 S, .int .i64 S, .int .i64 S, .int .i64 N, .bool false, undef, .int .i64 m, .func (.func 13) #[] #[.pointer (some ⟨w.heap.size + 1 + 1 + 1 + 1, 0, none⟩)], v, undef, undef, undef, undef, undef, undef, undef, undef, undef, undef, undef, undef, undef, undef, undef, undef, undef, undef, undef, undef, undef, undef, undef, undef, undef, undef, undef, undef, undef], defers := [] })
    ?assign ?body ?done ?stop
  case assign =>
    intro l x X K hK
    gi_wp2
    exact hK
  case body =>
    rintro hi k v X hhi hkN ⟨hkS, hI⟩ ⟨b, hb, rfl, hd⟩
    have hI' := hI
    obtain ⟨hv0, hv1, hv2, hv3, hB⟩ := hI
    have hc1 := hv1.cell
    have hc2 := hv2.cell
    have hc3 := hv3.cell
    have hf3 := hv3.frozen
    have hbl : b < X.heap.size := (Array.getElem?_eq_some_iff.1 hd).1
    have HD : Hid (X.heap[b]? = some (.cells (digV m k).toArray 2 (0, 0))) := hd
    clear hd hsh hS hseq
    gi_wp2
    gi_loopw [11] (fun j wr => ∃ t : Nat, t ≤ m ∧ j = .int .i64 t ∧ ∃ q, wr = X.drewN q) (fun j _ => m - (intOf j).toNat)
    case atStart => exact ⟨0, Nat.zero_le _, rfl, 0, rfl⟩
    case round =>
      obtain ⟨t, ht, rfl, q2, rfl⟩ := hrel
      by_cases htm : t < m
      · have hcj := block_cell HD.out (digV_get m k t htm)
        have htest : (((Bits.bit m k t : Nat) : Int) != bits .and .i64 ((k : Int) / 2 ^ (m - 1 - t)) 1) = false := by rw [and_bit m k t (by omega)]; simp
        gi_wp2
        refine region_quiet_round rfl (by kernel_rfl) (by kernel_rfl) ?_
        repeat (gi_big_quiet_step (fail))
        refine wpQuietIn_nil ?_
        rintro _ ⟨nq, rfl⟩
        gi_wp2
        exact ⟨⟨t + 1, by omega, by go_num, _, rfl⟩, by simp [intOf]; omega⟩
      · have hnew := hI'.count q2 (.int .i64 ((k : Int) + 1)) (by simp)
        have hsz3 : X.heap.size ≤ ((X.drewN q2).setCell ⟨w.heap.size + 1 + 1 + 1, 0, none⟩ (.int .i64 ((k : Int) + 1))).heap.size := by simp [World.setCell]
        have hKp : Kept (fun c => c ≠ w.heap.size + 1 + 1 + 1) X ((X.drewN q2).setCell ⟨w.heap.size + 1 + 1 + 1, 0, none⟩ (.int .i64 ((k : Int) + 1))) := ⟨hsz3, fun c hc => Below.heap_setCell (X.drewN q2) _ _ c hc⟩
        have hn3 := hnew.2.2.2.1.cell
        have hn2 := hnew.2.2.1.cell
        clear hsz3
        by_cases hend : k + 1 < S
        · gi_wp2
          exact ⟨hKp.mono (fun c hc => by omega), hKp.mono (fun c hc => by omega), hend, hnew⟩
        · gi_wp2
          exact ⟨hKp.mono (fun c hc => by omega), hKp.mono (fun c hc => by omega), rfl, by omega, hnew⟩
  case done =>
    rintro hi X hhi ⟨hkS, hv0, hv1, hv2, hv3, hB⟩ hK
    have hc3 := hv3.cell
    have hc0 := hv0.cell
    have hf0 := hv0.frozen
    have hlt0 := hv0.lt
    clear hsh hS hseq
    omega
  case stop =>
    rintro hi c k X hhi hkN ⟨rfl, hkS, hv0, hv1, hv2, hv3, hB⟩ hK
    have hc3 := hv3.cell
    have hc0 := hv0.cell
    have hf0 := hv0.frozen
    have hlt0 := hv0.lt
    clear hsh hS hseq
    subst hkS
    gi_wp2
    refine ⟨by simp, .inl ⟨_, _, rfl, run_takeDeferred (by exact (Below.heap_setCell _ _ _ _ (by simp; omega)).trans hK), ?_⟩⟩
    have hne : w4.heap.size ≠ w.heap.size := by omega
    have hfin : ((X.setCell ⟨w.heap.size, 0, none⟩ (.bool true)).putObj w4.heap.size (.deferred none)).cell? ⟨w.heap.size, 0, none⟩ = some (.bool true) := by
      have h2 : Boxed ((X.setCell ⟨w.heap.size, 0, none⟩ (.bool true)).putObj w4.heap.size (.deferred none)) w.heap.size 4 (.bool true) := (World.putObj_heap_other (Ne.symm hne)).trans (Boxed.set _ hv0)
      exact h2.cell
    refine ⟨.bool true, ?_, rfl, ?_⟩
    · simp [results, Yba.results4, go_sem, hfin]
    · have hb5 : Below w.heap.size w (X.setCell ⟨w.heap.size, 0, none⟩ (.bool true)) := hB.setCell (p := ⟨w.heap.size, 0, none⟩) (Nat.le_refl _) _
      refine ⟨hb5.os, hb5.tape, hb5.output, by have := hb5.size; simpa using this, fun c hc => (World.putObj_heap_other (by omega)).trans (hb5.block c hc)⟩

end Go.Proofs.Ybulkdpc
