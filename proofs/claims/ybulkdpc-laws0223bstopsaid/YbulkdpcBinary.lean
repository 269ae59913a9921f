/-
  The law LawS0223BBinary, walked.
-/
import Derived.Test.YbulkdpcAssign
import Derived.Maps.AppendAt
namespace Go.Proofs.Ybulkdpc
open Go.RowKit Go.Shelf
attribute [local go_sem] Oper.semAt_some

theorem info26 : (Yba.prog.info? 26).map (fun i => (i.zero, i.size, i.bytes)) = some (some (.slice none 0 0), 1, 24) := by kernel_rfl

/-- What the law holds between two rounds: k slices have come; the i-th bears the digits of i. -/
def GotInv (w : World) (N m hi k : Nat) (X : World) : Prop :=
  ∃ (gv : Value) (bs : List Nat), Boxed X w.heap.size 4 (.bool false) ∧ Boxed X (w.heap.size + 1) 3 (.int .i64 (N : Int)) ∧ Boxed X (w.heap.size + 1 + 1) 22 gv ∧
    bs.length = k ∧ X.ownsRow hi 26 1 gv k (bs.map fun b => .slice (some ⟨b, 0, none⟩) m m) ∧
    (∀ i b, bs[i]? = some b → hi ≤ b ∧ X.heap[b]? = some (.cells (digV m i).toArray 2 (0, 0))) ∧ Below w.heap.size w X

theorem Shift.ownsRow {lo hi : Nat} {A B : World} {e : TypeId} {size : Nat} {v : Value} {k : Nat} {xs : List Value} (h : Shift lo hi A B) (ho : A.ownsRow hi e size v k xs) : B.ownsRow hi e size v k xs := by
  refine ⟨ho.1, ?_⟩
  rcases ho.2 with h2 | ⟨g, cap, cur, rfl, hb, hg, r⟩
  · exact .inl h2
  · exact .inr ⟨g, cap, cur, rfl, hb, h.same hg (.inr hb), r⟩

theorem GotInv.shift {w : World} {N m hi k : Nat} {A B : World} {lo : Nat} (h : GotInv w N m hi k A) (hlo : w.heap.size + 3 ≤ lo) (hs : Shift lo hi A B) : GotInv w N m hi k B := by
  obtain ⟨gv, bs, h1, h2, h3, h4, h5, h6, h7⟩ := h
  have hl := h3.lt
  exact ⟨gv, bs, hs.same h1 (by omega), hs.same h2 (by omega), hs.same h3 (by omega), h4, hs.ownsRow h5, fun i b hb => ⟨(h6 i b hb).1, hs.same (h6 i b hb).2 (.inr (h6 i b hb).1)⟩, hs.below h7 (by omega) (by omega)⟩

theorem got_append {w X w1 : World} {N m hi k b : Nat} {gv gv' : Value} {bs : List Nat} {tmp : Obj}
    (hv1 : Boxed X w.heap.size 4 (.bool false)) (hv2 : Boxed X (w.heap.size + 1) 3 (.int .i64 (N : Int))) (hv : Boxed X (w.heap.size + 1 + 1) 22 gv)
    (hbs : bs.length = k) (hrow : X.ownsRow hi 26 1 gv k (bs.map fun b => .slice (some ⟨b, 0, none⟩) m m))
    (hels : ∀ i b, bs[i]? = some b → hi ≤ b ∧ X.heap[b]? = some (.cells (digV m i).toArray 2 (0, 0))) (hB : Below w.heap.size w X)
    (hhi : w.heap.size + 4 ≤ hi) (hb : hi ≤ b) (hd : X.heap[b]? = some (.cells (digV m k).toArray 2 (0, 0)))
    (hown' : w1.ownsRow hi 26 1 gv' (k + 1) ((bs.map fun b => .slice (some ⟨b, 0, none⟩) m m) ++ [.slice (some ⟨b, 0, none⟩) m m])) (hgrow : (X.alloc tmp).grownBy w1 gv.ownBlock) :
    Boxed w1 (w.heap.size + 1 + 1) 22 gv ∧ GotInv w N m hi (k + 1) (w1.setCell ⟨w.heap.size + 1 + 1, 0, none⟩ gv') ∧
      Kept (fun c => c < hi ∧ c ≠ w.heap.size + 1 + 1) X (w1.setCell ⟨w.heap.size + 1 + 1, 0, none⟩ gv') := by
  have hbl : b < X.heap.size := (Array.getElem?_eq_some_iff.1 hd).1
  -- an old block that is not the slice's own row
  have hold : ∀ c, c < X.heap.size → some c ≠ gv.ownBlock → w1.heap[c]? = X.heap[c]? := fun c hc hne =>
    (hgrow.block c (by simp; omega) hne).trans (Below.heap_alloc _ _ _ hc)
  have hlow : ∀ c, c < hi → some c ≠ gv.ownBlock := fun c hc e => by
    have := (hrow.lt c e.symm).1; omega
  have hnot : ∀ c l, X.heap[c]? = some (.cells l 2 (0, 0)) → some c ≠ gv.ownBlock := fun c l hc e => by
    rcases hrow.2 with ⟨rfl, _⟩ | ⟨g, cap, cur, rfl, _, hg, _⟩
    · simp [Value.ownBlock] at e
    · obtain rfl : c = g := by simpa [Value.ownBlock] using e
      rw [hg] at hc; simp at hc
  have hb1 : Boxed w1 (w.heap.size + 1 + 1) 22 gv := (hold _ hv.lt (hlow _ (by omega))).trans hv
  have hset : ∀ c, c ≠ w.heap.size + 1 + 1 → (w1.setCell ⟨w.heap.size + 1 + 1, 0, none⟩ gv').heap[c]? = w1.heap[c]? := fun c hc => Below.heap_setCell _ _ _ _ hc
  have hle1 : X.heap.size ≤ w1.heap.size := by have := hgrow.size; simp at this; omega
  have hsz : X.heap.size ≤ (w1.setCell ⟨w.heap.size + 1 + 1, 0, none⟩ gv').heap.size := by simpa [World.setCell] using hle1
  have hwX := hB.size
  refine ⟨hb1, ⟨gv', bs ++ [b], ?_, ?_, hb1.set gv', by simp [hbs], ?_, ?_, ?_⟩, ⟨hsz, fun c hc => ?_⟩⟩
  · exact (hset _ (by omega)).trans ((hold _ hv1.lt (hlow _ (by omega))).trans hv1)
  · exact (hset _ (by omega)).trans ((hold _ hv2.lt (hlow _ (by omega))).trans hv2)
  · rw [List.map_append, List.map_cons, List.map_nil]
    refine hown'.kept (grownBy_setCell' w1 _ gv') ?_
    rcases hown'.2 with ⟨_, h0⟩ | ⟨g, cap, cur, rfl, hg, _⟩
    · omega
    · right; simp [Value.ownBlock]; omega
  · intro i c hc
    by_cases hi' : i < bs.length
    · rw [List.getElem?_append_left hi'] at hc
      obtain ⟨h1, h2⟩ := hels i c hc
      exact ⟨h1, (hset _ (by omega)).trans ((hold _ (Array.getElem?_eq_some_iff.1 h2).1 (hnot c _ h2)).trans h2)⟩
    · rw [List.getElem?_append_right (by omega)] at hc
      have hi2 : i - bs.length = 0 := by
        obtain ⟨h, _⟩ := List.getElem?_eq_some_iff.1 hc
        simp at h; omega
      rw [hi2] at hc
      obtain rfl : b = c := by simpa using hc
      have : i = k := by omega
      subst this
      exact ⟨hb, (hset _ (by omega)).trans ((hold _ hbl (hnot b _ hd)).trans hd)⟩
  · refine ⟨hgrow.os.trans hB.os, hgrow.tape.trans hB.tape, hgrow.output.trans hB.output, by omega, fun c hc => ?_⟩
    exact (hset _ (by omega)).trans ((hold _ (by omega) (hlow _ (by omega))).trans (hB.block c hc))
  · by_cases hlt : c < X.heap.size
    · exact (hset _ hc.2).trans (hold c hlt (hlow c hc.1))
    · have := hc.1; omega

theorem and_bit (m k t : Nat) (hk : k ≤ 1024) : bits .and .i64 ((k : Int) / 2 ^ (m - 1 - t)) 1 = ((Bits.bit m k t : Nat) : Int) := by
  have e : ((k : Int) / 2 ^ (m - 1 - t)) = ((k / 2 ^ (m - 1 - t) : Nat) : Int) := by simp
  have hle : k / 2 ^ (m - 1 - t) ≤ 1024 := Nat.le_trans (Nat.div_le_self _ _) hk
  rw [e]
  unfold Bits.bit
  generalize k / 2 ^ (m - 1 - t) = y at hle ⊢
  have h := bits_mask .i64 32 (by decide) (fun n h0 h1 => by rw [IntKind.wrap_i64]; omega) 1 (by decide) (y : Int) (by omega) (by omega)
  rw [show ((2 : Int) ^ 1 - 1) = 1 from rfl] at h
  rw [h]
  omega

theorem pow_small (m : Nat) (hm : m ≤ 10) : 2 ^ m ≤ 1024 := by
  have := Nat.pow_le_pow_right (n := 2) (by omega) hm
  simpa using this
theorem shl_small (m N : Nat) (hm : m ≤ 10) (hN : N = 2 ^ m) : wrap64 (2 ^ m) = (N : Int) := by
  have e : ((2 : Int) ^ m) = (N : Int) := by rw [hN]; norm_cast
  have := pow_small m hm
  rw [e]; unfold wrap64; omega

set_option maxHeartbeats 1000000 in
theorem binary_in (n : Nat) (hn : 8 ≤ n) (a0 : Int) (hb1 : 0 ≤ a0) (hb2 : a0 ≤ 255) (m : Nat) (hm : m ≤ 10) (hm0 : a0 % 11 = (m : Int)) (N : Nat) (HN : Hid (N = 2 ^ m)) (w : World) :
    CallsIn Fence.wide n Yba.prog 3 #[.int .u8 a0] w fun e w' => e = .returned (.bool true) ∧ Below w.heap.size w w' := by
  have h1 : 1 ≤ n := by omega
  have hwide : ∀ f, Fence.wide.fn f := fun _ => trivial
  have hN : N ≤ 1024 := by rw [HN.out]; exact pow_small m hm
  have hsh := shl_small m N hm HN.out
  obtain ⟨i0, hi0, hz0, hz1, hz2⟩ := info_parts info26
  refine callsIn_of_wp_marks Yba.func3 rfl trivial ?_ rfl
  simp only [Yba.ntmps3, List.size_toArray, List.length_cons, List.length_nil, Nat.reduceAdd, Nat.reduceSub, Array.replicate_succ, Array.replicate_zero, List.push_toArray, List.append_toArray, List.nil_append, List.cons_append]
  gi_wp2_with (first
    | (gi_at_call 7; refine (callsIn_wide.2 (assignments_calls _ _)).mono ?_; rintro e w1 ⟨rfl, hw1⟩; rw [hw1]; clear hw1 w1)
    | fail)
  obtain ⟨w4, hw4⟩ : ∃ w4, (((w.alloc (.cells #[.bool false] 4)).alloc (.cells #[.int .i64 (N : Int)] 3)).alloc (.cells #[.slice none 0 0] 22)).alloc (.cells #[.int .i64 (m : Int)] 3) = w4 := ⟨_, rfl⟩
  have hsz : w.heap.size + 4 = w4.heap.size := by rw [← hw4]; simp
  have hle : w.heap.size + 4 ≤ w4.heap.size := by omega
  have HSZ : Hid (w.heap.size + 4 = w4.heap.size) := hsz
  clear hsz
  have hBn : Boxed w4 (w.heap.size + 1 + 1 + 1) 3 (.int .i64 (m : Int)) := by
    rw [← hw4]
    have h := Boxed.new (((w.alloc (.cells #[.bool false] 4)).alloc (.cells #[.int .i64 (N : Int)] 3)).alloc (.cells #[.slice none 0 0] 22)) 3 (.int .i64 (m : Int))
    simpa using h
  have hI0 : ∀ hi, w4.heap.size + 2 ≤ hi → GotInv w N m hi 0 w4 := by
    intro hi _
    rw [← hw4]
    have b0 := Boxed.new w 4 (.bool false)
    have b1 := Boxed.new (w.alloc (.cells #[.bool false] 4)) 3 (.int .i64 (N : Int))
    have b2 := Boxed.new ((w.alloc (.cells #[.bool false] 4)).alloc (.cells #[.int .i64 (N : Int)] 3)) 22 (.slice none 0 0)
    simp only [World.size_alloc] at b1 b2
    exact ⟨_, [], ((b0.alloc _).alloc _).alloc _, (b1.alloc _).alloc _, b2.alloc _, rfl, World.ownsRow_nil _ _ _ _, by simp, ((((Below.refl _ w).alloc (Nat.le_refl _) _).alloc (by simp) _).alloc (by simp; omega) _).alloc (by simp; omega) _⟩
  rw [hw4]
  clear hw4
  have hseq := assign_seq (n - 1) m (w.heap.size + 1 + 1 + 1) (by omega) hm w4 hBn
  rw [← HN.out] at hseq
  refine wpIn_rangeFunc_shift (F := Fence.wide) rfl h1 (gf := 13) (lb := #[.pointer (some ⟨w.heap.size + 1 + 1 + 1, 0, none⟩)]) rfl trivial (enters_of Yba.func13 (by kernel_rfl) rfl)
    hseq rfl
    (fun hi k X => GotInv w N m hi k X)
    (fun c hi k X => False)
    (fun hi k A B hs hg => hs.shift (by omega) hg)
    (fun c hi k A B hs hg => hs.elim)
    (fun hi k v A B hh hs hg => by obtain ⟨b, hb, hv, hc⟩ := hs; exact ⟨b, hb, hv, hg.same hc (by omega)⟩)
    (fun hi => ⟨by omega, by omega⟩)
    hI0
    (fun v => { tmps := #[.int .u8 a0, undef, .pointer (some ⟨w.heap.size, 0, none⟩), .int .i64 m, .pointer (some ⟨w.heap.size + 1, 0, none⟩), .pointer (some ⟨w.heap.size + 1 + 1, 0, none⟩), v, undef, undef, undef, .int .u8 a0, .int .i64 a0, .int .i64 m, .int .i64 m, .int .i64 N, .int .i64 m, .func (.func 13) #[] #[.pointer (some ⟨w.heap.size + 1 + 1 + 1, 0, none⟩)], v, undef, undef, undef, undef, undef, undef, undef, undef, undef, undef, undef, undef, undef, undef, undef, undef, undef, undef, undef, undef, undef, undef, undef, undef, undef, undef, undef, undef, undef, undef, undef, undef, undef, undef, undef, undef, undef, undef, undef, undef, undef], defers := [] })
    ?assign ?body ?done ?stop
  case assign =>
    intro l x X K hK
    gi_wp2
    exact hK
  case body =>
    rintro hi k v X hhi hkN ⟨gv, bs, hv1, hv2, hv, hbs, hrow, hels, hB⟩ ⟨b, hb, rfl, hd⟩
    have hc1 := hv2.cell
    have hc := hv.cell
    have hbl : b < X.heap.size := (Array.getElem?_eq_some_iff.1 hd).1
    have hnlt : ¬ (N : Int) ≤ (k : Int) := by omega
    have hlen : ∃ ga cap, gv = .slice ga k cap := by
      rcases hrow.2 with ⟨rfl, rfl⟩ | ⟨g, cap, cur, rfl, _⟩
      · exact ⟨_, _, rfl⟩
      · exact ⟨_, _, rfl⟩
    obtain ⟨ga, cap, rfl⟩ := hlen
    have HD : Hid (X.heap[b]? = some (.cells (digV m k).toArray 2 (0, 0))) := hd
    clear hd
    gi_wp2_with (gi_at_builtin; refine wpListIn_append_own _ rfl _ _ 22 rfl hi 26 i0 (.slice none 0 0) 1 24 Yba.underlying22 hi0 hz0 hz1 hz2 rfl (by decide) _ _ _ rfl (hrow.alloc _) ⟨X.heap.size, 0, none⟩ 1 1 [.slice (some ⟨b, 0, none⟩) m m] rfl rfl (cell_one_new _ _ _) (by simp [Value.oneCell']) (by unfold maxLen; omega) (by omega) (by simp; omega) ?_; intro v' w1 hown' hgrow _; obtain ⟨g', cap', rfl⟩ := ownsRow_succ hown'; obtain ⟨hv1', HG, HK⟩ := got_append hv1 hv2 hv hbs hrow hels hB (by omega) hb HD.out hown' hgrow; have hc1' := hv1'.cell; have hf1 := hv1'.frozen; clear hown' hgrow)
    exact ⟨HK.mono (fun c hc => by omega), HK.mono (fun c hc => by omega), HG⟩
  case done =>
    rintro hi X hhi ⟨gv, bs, hv1, hv2, hv, hbs, hrow, hels, hB⟩ hK
    have hN1 : 0 < N := by rw [HN.out]; exact Nat.pow_pos (by omega)
    have hrow' := hrow
    rcases hrow.2 with ⟨_, h0⟩ | ⟨g, cap, cur, rfl, hg, hgb, hcap, hcapm, _, _⟩
    · omega
    have hels2 : ∀ i, i < N → ∃ b, X.cell? ⟨g, i, none⟩ = some (.slice (some ⟨b, 0, none⟩) m m) ∧ ∀ j, j < m → X.cell? ⟨b, j, none⟩ = some (.int .i64 ((Bits.bit m i j : Nat) : Int)) := by
      intro i hiN
      obtain ⟨b, hb⟩ : ∃ b, bs[i]? = some b := ⟨_, List.getElem?_eq_getElem (by omega)⟩
      refine ⟨b, ?_, fun j hj => block_cell (hels i b hb).2 (digV_get m i j hj)⟩
      rw [hrow'.cellAt i (by omega)]
      simp [hb]
    have HE : Hid (∀ i, i < N → ∃ b, X.cell? ⟨g, i, none⟩ = some (.slice (some ⟨b, 0, none⟩) m m) ∧ ∀ j, j < m → X.cell? ⟨b, j, none⟩ = some (.int .i64 ((Bits.bit m i j : Nat) : Int))) := hels2
    have hc0 := hv1.cell
    have hf0 := hv1.frozen
    have hc1 := hv2.cell
    have hc2 := hv.cell
    clear hels2 hrow hrow' hels hgb hz0 hz1 hz2 hi0 hseq hI0
    gi_wp2
    gi_loopw [32] (fun i wr => ∃ k : Nat, k ≤ N ∧ i = .int .i64 k ∧ ∃ q, wr = X.drewN q) (fun i _ => N - (intOf i).toNat)
    case atStart => exact ⟨0, Nat.zero_le _, rfl, 0, rfl⟩
    case round =>
      obtain ⟨k, hk, rfl, q, rfl⟩ := hrel
      by_cases hlt : k < N
      · obtain ⟨b, hbc, hbj⟩ := HE.out k hlt
        have HBJ : Hid (∀ j, j < m → X.cell? ⟨b, j, none⟩ = some (.int .i64 ((Bits.bit m k j : Nat) : Int))) := hbj
        clear hbj
        gi_wp2
        gi_loopw [9] (fun j wr => ∃ t : Nat, t ≤ m ∧ j = .int .i64 t ∧ ∃ q, wr = X.drewN q) (fun j _ => m - (intOf j).toNat)
        case atStart => exact ⟨0, Nat.zero_le _, rfl, q, rfl⟩
        case round =>
          obtain ⟨t, ht, rfl, q2, rfl⟩ := hrel
          by_cases htm : t < m
          · have hcj := HBJ.out t htm
            have htest : (((Bits.bit m k t : Nat) : Int) != bits .and .i64 ((k : Int) / 2 ^ (m - 1 - t)) 1) = false := by rw [and_bit m k t (by omega)]; simp
            gi_wp2
            gi_quiet (fail)
            gi_wp2
            exact ⟨⟨t + 1, by omega, by go_num, _, rfl⟩, by simp [intOf]; omega⟩
          · gi_wp2
            exact ⟨⟨k + 1, by omega, by go_num, _, rfl⟩, by simp [intOf]; omega⟩
      · gi_wp2
        refine ⟨by simp, .inl ⟨_, _, rfl, run_takeDeferred (by exact (Below.heap_setCell _ _ _ _ (by simp; omega)).trans hK), ?_⟩⟩
        have hlt0 := hv1.lt
        have hne : w4.heap.size ≠ w.heap.size := by omega
        have hfin : (((X.drewN q).setCell ⟨w.heap.size, 0, none⟩ (.bool true)).putObj w4.heap.size (.deferred none)).cell? ⟨w.heap.size, 0, none⟩ = some (.bool true) := by
          have h1 : Boxed ((X.drewN q).setCell ⟨w.heap.size, 0, none⟩ (.bool true)) w.heap.size 4 (.bool true) := Boxed.set (W := X.drewN q) _ hv1
          have h2 : Boxed (((X.drewN q).setCell ⟨w.heap.size, 0, none⟩ (.bool true)).putObj w4.heap.size (.deferred none)) w.heap.size 4 (.bool true) := (World.putObj_heap_other (Ne.symm hne)).trans h1
          exact h2.cell
        refine ⟨.bool true, ?_, rfl, ?_⟩
        · simp [results, Yba.results3, go_sem, hfin]
        · have hb5 : Below w.heap.size w ((X.drewN q).setCell ⟨w.heap.size, 0, none⟩ (.bool true)) := (below_drewN hB q).setCell (p := ⟨w.heap.size, 0, none⟩) (Nat.le_refl _) _
          refine ⟨hb5.os, hb5.tape, hb5.output, by have := hb5.size; simpa using this, fun c hc => (World.putObj_heap_other (by omega)).trans (hb5.block c hc)⟩
  case stop =>
    rintro hi c k X hhi hkN h hK
    exact h.elim
end Go.Proofs.Ybulkdpc
