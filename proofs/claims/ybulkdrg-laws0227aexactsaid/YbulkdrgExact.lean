/-
  LawS0227AExact, walked.
-/
import Derived.Test.YbulkdrgSpans
import Derived.Deep.RegionHeldLaw
import Derived.Deep.AppendLies
namespace Go.Proofs.Ybulkdrg
open Go.RowKit
set_option linter.unusedVariables false
set_option linter.unusedSimpArgs false

def ints (K : List Nat) : List Value := K.map fun (j : Nat) => Value.int .i64 (j : Int)
theorem ints_len (K : List Nat) : (ints K).length = K.length := by simp [ints]
theorem Yba.info3 : (Yba.prog.info? 3).map (fun i => (i.zero, i.size, i.bytes)) = some (some (.int .i64 0), 1, 8) := by kernel_rfl

/-! ### The plain law: the want-loop's list is the join's -/
/-- What holds at the head of the loop, k = q + 1. -/
structure WInv (fr to : Nat → Value) (tx : Value → ByteArray) (K : List Nat) (q start : Nat) (want : List (Value × Value)) : Prop where
  le : q ≤ K.length
  st : q < K.length → start ≤ q
  mid : q < K.length → JK fr to tx (K.take (q + 1)) = want ++ [(fr (K.getD start 0), to (K.getD q 0))]
  fin : q = K.length → want = JK fr to tx K

theorem take_succ_getD (K : List Nat) (q : Nat) (h : q < K.length) : K.take (q + 1) = K.take q ++ [K.getD q 0] := by
  rw [List.take_add_one, List.getElem?_eq_getElem h]
  simp [List.getD, h]
theorem WInv.start0 (fr to : Nat → Value) (tx : Value → ByteArray) (K : List Nat) (h : 0 < K.length) : WInv fr to tx K 0 0 [] := by
  refine ⟨by omega, fun _ => Nat.le_refl _, fun _ => ?_, fun e => by omega⟩
  rw [take_succ_getD K 0 h, JK_snoc]
  simp [JK_nil, step_nil]
theorem WInv.cut {fr to : Nat → Value} {tx : Value → ByteArray} {K : List Nat} {q start : Nat} {want : List (Value × Value)} (h : WInv fr to tx K q start want) (hq : q < K.length)
    (hc : q + 1 < K.length → eqT tx (to (K.getD q 0)) (fr (K.getD (q + 1) 0)) = false) : WInv fr to tx K (q + 1) (q + 1) (want ++ [(fr (K.getD start 0), to (K.getD q 0))]) := by
  refine ⟨by omega, fun _ => Nat.le_refl _, fun h1 => ?_, fun e => ?_⟩
  · rw [take_succ_getD K (q + 1) h1, JK_snoc, h.mid hq, step_snoc, if_neg (by rw [hc h1]; simp)]
  · rw [← h.mid hq, List.take_of_length_le (by omega)]
theorem WInv.same {fr to : Nat → Value} {tx : Value → ByteArray} {K : List Nat} {q start : Nat} {want : List (Value × Value)} (h : WInv fr to tx K q start want) (hq : q + 1 < K.length)
    (hc : eqT tx (to (K.getD q 0)) (fr (K.getD (q + 1) 0)) = true) : WInv fr to tx K (q + 1) start want := by
  have := h.st (by omega)
  refine ⟨by omega, fun _ => by omega, fun h1 => ?_, fun e => by omega⟩
  rw [take_succ_getD K (q + 1) h1, JK_snoc, h.mid (by omega), step_snoc, if_pos hc]
theorem WInv.len {fr to : Nat → Value} {tx : Value → ByteArray} {K : List Nat} {q start : Nat} {want : List (Value × Value)} (h : WInv fr to tx K q start want) (hq : q < K.length) : want.length + 1 ≤ K.length := by
  have h1 := JK_len fr to tx (K.take (q + 1))
  rw [h.mid hq] at h1
  simp at h1
  omega

theorem step_pos (tx : Value → ByteArray) (J : List (Value × Value)) (f t : Value) : 0 < (stepJ tx J f t).length := by
  rcases snoc_cases J with rfl | ⟨J', ⟨a, b⟩, rfl⟩
  · simp [step_nil]
  · rw [step_snoc]; split <;> simp
theorem JK_pos (fr to : Nat → Value) (tx : Value → ByteArray) (K : List Nat) (h : K ≠ []) : ∃ m, (JK fr to tx K).length = m + 1 := by
  rcases snoc_cases K with rfl | ⟨K', i, rfl⟩
  · exact absurd rfl h
  · have := step_pos tx (JK fr to tx K') (fr i) (to i)
    rw [JK_snoc]
    exact ⟨_, (Nat.succ_pred_eq_of_pos this).symm⟩
theorem ints_at (K : List Nat) (j : Nat) (h : j < K.length) : (ints K)[j]? = some (.int .i64 ((K.getD j 0 : Nat) : Int)) := by simp [ints, h, List.getD]

theorem wq1 (q : Nat) (h : q ≤ 1024) : wrap64 (q : Int) = (q : Int) := by unfold wrap64; omega
theorem wq2 (q : Nat) (h : q ≤ 1024) : IntKind.i64.wrap (q : Int) = (q : Int) := by rw [IntKind.wrap_i64]; omega
theorem wq3 (q : Nat) (h : q ≤ 1024) : wrap64 ((q : Int) + 1 - 1) = (q : Int) := by unfold wrap64; omega
theorem wq4 (q : Nat) (h : q ≤ 1024) : IntKind.i64.wrap ((q : Int) + 1 - 1) = (q : Int) := by rw [IntKind.wrap_i64]; omega

/-- 'step_append_lies', the slot that is written told by number. -/
theorem step_append_to {P : Program} (w : World) {ops : Array Oper} {o : Oper} {a : Act} {K : Act → World → Prop} {Q : Exit → Act → World → Prop} {E : Prop} (hgd : o.guard = none) (d : Option Nat) (hd : o.dst = d) (s x : Operand) (t : TypeId)
    (ho : o.op = .call { callee := .builtin .append, args := #[s, x], argTypes := #[t, t] })
    (base : Nat) (e : TypeId) (i : TypeInfo) (z : Value) (size bytes : Nat) (ht : P.underlying t = some (.slice e)) (hi : P.info? e = some i) (hz : i.zero = some z)
    (hsize : i.size = size) (hby : i.bytes = bytes) (hzs : z.cells.size = size) (hsz : 0 < size)
    (v : Value) (n : Nat) (xs : List Value) (hs : a.eval s = v) (hown : w.ownsRow base e size v n xs)
    (ad : Addr) (m c : Nat) (news : List Value) (hx : a.eval x = .slice (some ad) m c) (hl : news.length = m * size) (hnews : ∀ j u, news[j]? = some u → w.cell? (ad.add j) = some u) (h1 : ∀ u ∈ news, u.oneCell' = true)
    (hm : 0 < m) (h63 : n + m ≤ maxLen) (hbytes : (n + m) * bytes ≤ 140737488355328) (hbase : base ≤ w.heap.size) (H : Nat) (hH : w.heap.size = H)
    (h : ∀ g cap w', w'.ownsRow base e size (.slice (some ⟨g, 0, none⟩) (n + m) cap) (n + m) (xs ++ news) → w.grownBy w' v.ownBlock → (v.ownBlock = some g ∨ g = H) → g < w'.heap.size → K (a.put d (.slice (some ⟨g, 0, none⟩) (n + m) cap)) w') :
    if Region.wanted o (yielded ops a.tmps) = true then Oper.wp P o a w K Q else E := by
  subst hd
  exact step_append_lies w hgd s x t ho base e i z size bytes ht hi hz hsize hby hzs hsz v n xs hs hown ad m c news hx hl hnews h1 hm h63 hbytes hbase H hH h

set_option maxHeartbeats 400000 in
theorem exact_long (ao : Option Addr) (L cap : Nat) (hL : 1024 < L) (n : Int) (w : World) :
    Calls Yba.prog 3 #[.slice ao L cap, .int .i64 n] w fun e w' => e = .returned (.bool true) ∧ Below w.heap.size w w' := by
  have hL' : (1024 : Int) < (L : Int) := by omega
  go_enter Yba.func3, Yba.ntmps3
  go_wp2_with fail
  go_ret
  exact ⟨rfl, Below.refl _ _⟩

set_option maxHeartbeats 2000000 in
set_option maxRecDepth 100000 in
theorem exact_calls (W : World) (ao : Option Addr) (L cap : Nat) (fr to : Nat → Value) (fi : Nat → Int) (tx : Value → ByteArray) (hI : Inp W ao L fr to fi) (hT : Txt W L fr to tx) (hL : L ≤ 1024) (n : Int) :
    Calls Yba.prog 3 #[.slice ao L cap, .int .i64 n] W fun e w' => e = .returned (.bool true) ∧ Below W.heap.size W w' := by
  have hL' : ¬ ((1024 : Int) < (L : Int)) := by omega
  obtain ⟨i3, hi3, hz30, hz31, hz32⟩ := info_parts Yba.info3
  obtain ⟨i34, hi34, hz340, hz341, hz342⟩ := info_parts Yba.info34
  have kn : ∀ (w : World) (a : Option Addr) (l c : Nat), (binOp .eql 26 (.slice a l c) (.slice none 0 0)).run Yba.prog w = .ok (.bool a.isNone) w := fun w a l c => Lib.run_eql_slice_nil w 26 34 a l c 0 0 Yba.underlying26
  have HI : Hid (Inp W ao L fr to fi) := hI
  have HT : Hid (Txt W L fr to tx) := hT
  clear hI hT
  go_enter Yba.func3, Yba.ntmps3
  go_wp2_with fail
  refine (build_calls W ao L cap fr to fi HI.out hL W (Below.refl _ _)).mono ?_
  rintro e w1 ⟨⟨rfl, hr1⟩, hB1⟩
  have HR1 : Hid (w1.ownsRow W.heap.size 37 3 (.slice (some ⟨W.heap.size, 0, none⟩) L L) L (flat3 fr to fi L)) := hr1
  clear hr1
  go_wp2_with fail
  refine (spans_calls W L fr to fi tx HT.out hL n w1 hB1 W.heap.size W.heap.size ((HR1.out).lt W.heap.size rfl).2 HR1.out).mono ?_
  rintro e w2 ⟨⟨gv, rfl, hrg, hgn⟩, hB2⟩
  have HRG : Hid (w2.ownsRow w1.heap.size 34 2 gv (JK fr to tx (kept fi n L)).length (flat2 (JK fr to tx (kept fi n L)))) := hrg
  have HGN : Hid (JK fr to tx (kept fi n L) = [] → gv = .slice none 0 0) := hgn
  have hW2 : Below W.heap.size W w2 := hB1.trans (hB2.mono hB1.size)
  clear hrg hgn hB1 hB2 HR1
  go_wp2_with fail
  go_loopw [7, 23] (fun v i wr => ∃ k : Nat, k ≤ L ∧ i = .int .i64 k ∧ Hid (wr.ownsRow w2.heap.size 3 1 v (kept fi n k).length (ints (kept fi n k))) ∧ Hid (kept fi n k = [] → v = .slice none 0 0) ∧ Below w2.heap.size w2 wr) (fun _ i _ => L - (intOf i).toNat)
  case atStart => exact ⟨0, Nat.zero_le _, rfl, World.ownsRow_nil _ _ _ _, fun _ => rfl, Below.refl _ _⟩
  case round =>
    obtain ⟨k, hk, rfl, hrow, hnil, hB⟩ := hrel
    by_cases hlt : k < L
    · obtain ⟨a, rfl, p, hp, hat0⟩ := HI.out.at0 k hlt
      have hat := hat0.below (hW2.trans (hB.mono hW2.size))
      have g2 := hat.c2
      clear hat hat0
      by_cases hn : fi k < n
      · have hkl := kept_len fi n k
        go_wp2_with (at_builtin; refine wpList_append_own _ rfl _ _ 28 rfl w2.heap.size 3 i3 _ 1 8 Yba.underlying28 hi3 hz30 hz31 hz32 rfl (by decide) _ (kept fi n k).length (ints (kept fi n k)) rfl (hrow.out.alloc _) ⟨wr.heap.size, 0, none⟩ 1 1 [.int .i64 k] rfl rfl (cells_new _ _ _ _ rfl) (by simp [Value.oneCell']) (by unfold maxLen; omega) (by omega) (by have := hB.size; simp; omega) ?_)
        intro v' w3 hrow2 hgrow2 hnil2
        have hB2 : Below w2.heap.size w2 w3 := (hB.alloc hB.size _).grown hgrow2 (by have := hB.size; simp; omega) (fun k hk => (hrow.out.lt k hk).1)
        have HR : Hid (w3.ownsRow w2.heap.size 3 1 v' (kept fi n (k + 1)).length (ints (kept fi n (k + 1)))) := by
          rw [kept_yes hn]
          show w3.ownsRow _ _ _ _ _ _
          simpa [ints] using hrow2
        have HN : Hid (kept fi n (k + 1) = [] → v' = .slice none 0 0) := by rw [kept_yes hn]; intro h; simp at h
        clear hrow2 hgrow2 hnil2
        go_wp2_with fail
        exact ⟨⟨k + 1, by omega, by go_num, HR, HN, hB2⟩, by simp [intOf]; omega⟩
      · go_wp2_with fail
        exact ⟨⟨k + 1, by omega, by go_num, by rw [kept_no hn]; exact hrow, by rw [kept_no hn]; exact hnil, hB⟩, by simp [intOf]; omega⟩
    · obtain rfl : k = L := by omega
      obtain ⟨K, hK⟩ : ∃ K, kept fi n k = K := ⟨_, rfl⟩
      have hKL : Hid (∀ j ∈ K, j < k) := by rw [← hK]; exact kept_lt
      have hK1 : K.length ≤ 1024 := by have := kept_len fi n k; rw [hK] at this; omega
      rw [hK] at hrow hnil HRG HGN
      have hW3 := hW2.trans (hB.mono hW2.size)
      have HRG3 : Hid (wr.ownsRow w1.heap.size 34 2 gv (JK fr to tx K).length (flat2 (JK fr to tx K))) := HRG.out.kept (row := none) ⟨hB.os, hB.tape, hB.output, hB.size, fun c hc _ => hB.block c hc⟩ (Classical.em (gv.ownBlock = none))
      have hggl : Hid (∀ g, gv.ownBlock = some g → g < wr.heap.size) := fun g hg => (HRG3.out.lt g hg).2
      clear hK HRG hB hk hlt
      generalize wr = w3 at *
      by_cases hz : K = []
      · obtain rfl := hnil.out hz
        obtain rfl := HGN.out (by rw [hz]; rfl)
        subst hz
        go_wp2_with fail
        go_loopw [9, 10, 11] (fun v s i wr => v = .slice none 0 0 ∧ s = .int .i64 0 ∧ i = .int .i64 1 ∧ wr = w3) (fun _ _ _ _ => 0)
        case atStart => exact ⟨rfl, rfl, rfl, rfl⟩
        case round =>
          obtain ⟨rfl, rfl, rfl, rfl⟩ := hrel
          go_wp2_with fail
          go_loopw [12] (fun i wr' => i = .int .i64 0 ∧ wr' = wr) (fun _ _ => 0)
          case atStart => exact ⟨rfl, rfl⟩
          case round =>
            obtain ⟨rfl, rfl⟩ := hrel
            go_wp2_with fail
            go_ret
            exact ⟨rfl, hW3⟩
      · obtain ⟨m, hm⟩ : ∃ m, K.length = m + 1 := ⟨K.length - 1, by have := List.length_pos_iff.2 hz; omega⟩
        obtain ⟨gk, ck, hgv⟩ := ownsRow_succ (k := m) (by rw [← hm]; exact hrow.out)
        rw [← hm] at hgv
        obtain ⟨M, hM⟩ : ∃ M, K.length = M := ⟨_, rfl⟩
        have hM0 : 0 < M := by omega
        rw [hM] at hgv hK1
        subst hgv
        obtain ⟨mj, hmj⟩ := JK_pos fr to tx K hz
        obtain ⟨gg, cg, hgv⟩ := ownsRow_succ (k := mj) (by rw [← hmj]; exact HRG3.out)
        rw [← hmj] at hgv
        obtain ⟨N, hN⟩ : ∃ N, (JK fr to tx K).length = N := ⟨_, rfl⟩
        have hN0 : 0 < N := by omega
        have hN1 : N ≤ 1024 := by have := JK_len fr to tx K; omega
        rw [hN] at hgv
        subst hgv
        have hkc : Hid (∀ j, j < K.length → ∃ i, i < k ∧ K.getD j 0 = i ∧ w3.cell? ⟨gk, j, none⟩ = some (.int .i64 (i : Int))) := by
          intro j hj
          have h1 := hrow.out
          rw [hM] at h1
          refine ⟨K.getD j 0, hKL.out _ ?_, rfl, ?_⟩
          · simp [List.getD, hj]
          · rw [h1.cellAt j (by omega)]
            exact ints_at K j hj
        have hgk : gk < w3.heap.size := (hrow.out.lt gk rfl).2
        have hgg : gg < w3.heap.size := (HRG3.out.lt gg rfl).2
        obtain ⟨a, hao⟩ : ∃ a, ao = some a := by
          obtain ⟨i, hi, -⟩ := hkc.out 0 (by rw [hM]; omega)
          obtain ⟨a, h, -⟩ := HI.out.at0 i hi
          exact ⟨a, h⟩
        subst hao
        have hat : Hid (∀ j, j < k → ∃ p, a.add (j * 3) = p ∧ At W p (fr j) (to j) (fi j)) := by
          intro j hj
          obtain ⟨a', h, p, hp, hA⟩ := HI.out.at0 j hj
          cases h
          exact ⟨p, hp, hA⟩
        have HM : Hid (K.length = M) := hM
        have HMJ : Hid (w3.ownsRow w1.heap.size 34 2 (.slice (some ⟨gg, 0, none⟩) N cg) N (flat2 (JK fr to tx K))) := by
          have h := HRG3.out
          rw [hN] at h
          exact h
        have HMK : Hid ((JK fr to tx K).length = N) := hN
        clear hm hmj hz hnil hrow HGN HRG3 hggl hM hN
        clear m mj
        go_wp2_with fail
        go_loopw [9, 10, 11] (fun v s i wr => ∃ (q st : Nat) (want : List (Value × Value)), i = .int .i64 ((q : Int) + 1) ∧ s = .int .i64 (st : Int) ∧ Hid (WInv fr to tx K q st want) ∧ q ≤ M ∧ Hid (wr.ownsRow w3.heap.size 34 2 v want.length (flat2 want)) ∧ Below w3.heap.size w3 wr) (fun _ _ i _ => M + 1 - (intOf i).toNat)
        case atStart => exact ⟨0, 0, [], rfl, rfl, WInv.start0 fr to tx K (by rw [HM.out]; omega), by omega, World.ownsRow_nil _ _ _ _, Below.refl _ _⟩
        case round =>
          obtain ⟨q, st, want, rfl, rfl, hw, hq, hrw, hB⟩ := hrel
          by_cases hq1 : q < M
          · have hql : q < K.length := by rw [HM.out]; exact hq1
            have hst := hw.out.st hql
            have hwl := hw.out.len hql
            rw [HM.out] at hwl
            obtain ⟨s1, hs1, es1, cs1⟩ := hkc.out st (by rw [HM.out]; omega)
            obtain ⟨q1, hq1l, eq1, cq1⟩ := hkc.out q hql
            obtain ⟨p1, hp1, at1⟩ := hat.out s1 hs1
            obtain ⟨p2, hp2, at2⟩ := hat.out q1 hq1l
            have Gt := HT.out.to q1 hq1l
            obtain ⟨a1, l1, c1, hf⟩ := (HT.out.fr s1 hs1).shape
            obtain ⟨a2, l2, c2, ht⟩ := Gt.shape
            have hBW : Below W.heap.size W wr := hW3.trans (hB.mono hW3.size)
            have b1 := (at1.below hBW).c0
            have b2 := (at2.below hBW).c1
            have b3 := (hB.cell (p := ⟨gk, st, none⟩) hgk).trans cs1
            have b4 := (hB.cell (p := ⟨gk, q, none⟩) hgk).trans cq1
            rw [hf] at b1
            rw [ht] at b2
            have HCUT : Hid ((q + 1 < K.length → eqT tx (to q1) (fr (K.getD (q + 1) 0)) = false) → WInv fr to tx K (q + 1) (q + 1) (want ++ [(.slice a1 l1 c1, .slice a2 l2 c2)])) := by
              intro h
              have := hw.out.cut hql (by rw [eq1]; exact h)
              rw [es1, eq1, hf, ht] at this
              exact this
            have HS : Hid (∀ w', Below w3.heap.size w3 w' → w'.cell? ⟨gk, st, none⟩ = some (.int .i64 (s1 : Int)) ∧ w'.cell? ⟨gk, q, none⟩ = some (.int .i64 (q1 : Int)) ∧ w'.cell? p1 = some (.slice a1 l1 c1) ∧ w'.cell? ⟨p2.block, p2.off + 1, none⟩ = some (.slice a2 l2 c2)) := by
              intro w' hB'
              have hBW' : Below W.heap.size W w' := hW3.trans (hB'.mono hW3.size)
              have b1 := (at1.below hBW').c0
              have b2 := (at2.below hBW').c1
              rw [hf] at b1
              rw [ht] at b2
              exact ⟨(hB'.cell (p := ⟨gk, st, none⟩) hgk).trans cs1, (hB'.cell (p := ⟨gk, q, none⟩) hgk).trans cq1, b1, b2⟩
            have HQ1 : Hid (K.getD q 0 = q1) := eq1
            have HF1 : Hid (fr s1 = .slice a1 l1 c1) := hf
            have HF2 : Hid (to q1 = .slice a2 l2 c2) := ht
            clear es1 eq1 hf ht cs1 cq1 at1 at2
            have hq24 : q ≤ 1024 := by omega
            by_cases hlast : q + 1 = M
            · have HC := HCUT.out (fun h => by rw [HM.out] at h; omega)
              have hlb : ((q : Int) + 1 == (M : Int)) = true := by simp; omega
              have hstm : st < M := by omega
              have hlast' : Hid (q + 1 = M) := hlast
              clear hlast
              have HC' : Hid _ := HC
              clear HC HCUT hw
              go_wp2_with fail
              go_quiet (fail)
              go_wp2_with fail
              have hw1 := wq1 q hq24
              have hw2 := wq2 q hq24
              have hw3 := wq3 q hq24
              have hw4 := wq4 q hq24
              go_region_held_law (fun w' => w'.cell? ⟨gk, st, none⟩ = some (.int .i64 (s1 : Int)) ∧ w'.cell? ⟨gk, q, none⟩ = some (.int .i64 (q1 : Int)) ∧ w'.cell? p1 = some (.slice a1 l1 c1) ∧ w'.cell? ⟨p2.block, p2.off + 1, none⟩ = some (.slice a2 l2 c2))
                (first | exact HS.out _ hB9 | exact HS.out _ ((Below.drewN hB _).drew) | exact HS.out _ (Below.drewN hB _) | exact HS.out _ ((Below.drewN hB _).alloc (by have := hB.size; simp; omega) _) | exact HS.out _ (((Below.drewN hB _).drew).alloc (by have := hB.size; simp; omega) _))
                (first | (refine step_append_to _ rfl (some 89) rfl _ _ 26 rfl w3.heap.size 34 i34 _ 2 48 Yba.underlying26 hi34 hz340 hz341 hz342 rfl (by decide) u9 want.length (flat2 want) (by simp [Act.eval]) (World.ownsRow.alloc (w := wr.drewN _) hrw.out _) ⟨wr.heap.size, 0, none⟩ 1 1 [.slice a1 l1 c1, .slice a2 l2 c2] (by simp [Act.eval]) rfl (cells_new _ _ _ _ (by simp)) (by simp [Value.oneCell']) (by decide) (by unfold maxLen; omega) (by omega) (by have := hB.size; simp; omega) _ rfl ?_; intro gw cw w9 hown9 hgrow9 hat9 hlt9; have hB9 : Below w3.heap.size w3 w9 := ((Below.drewN hB _).alloc (by have := hB.size; simp; omega) _).grown hgrow9 (by have := hB.size; simp; omega) (fun k hk => (hrw.out.lt k hk).1); have HR9 : Hid (w9.ownsRow w3.heap.size 34 2 (.slice (some ⟨gw, 0, none⟩) (want.length + 1) cw) (want.length + 1) (flat2 want ++ [.slice a1 l1 c1, .slice a2 l2 c2])) := hown9; clear hown9 hgrow9 hat9 hlt9))
              have HRX : Hid (w9.ownsRow w3.heap.size 34 2 (.slice (some ⟨gw, 0, none⟩) (want.length + 1) cw) (want ++ [(Value.slice a1 l1 c1, Value.slice a2 l2 c2)]).length (flat2 (want ++ [(Value.slice a1 l1 c1, Value.slice a2 l2 c2)]))) := by
                rw [flat2_snoc, List.length_append]
                exact HR9
              clear HR9 hw1 hw2 hw3 hw4
              simp only [Exit.then, Act.put, List.setIfInBounds_toArray, List.set_cons_zero, List.set_cons_succ]
              go_wp2_with fail
              exact ⟨⟨q + 1, q + 1, _, by go_num, by go_num, HC', by omega, HRX, hB9⟩, by simp [intOf]; omega⟩
            · have hq2 : q + 1 < M := by omega
              have hlb : ((q : Int) + 1 == (M : Int)) = false := by rw [beq_eq_false_iff_ne]; omega
              have hstm : st < M := by omega
              obtain ⟨r1, hr1, er1, cr1⟩ := hkc.out (q + 1) (by rw [HM.out]; exact hq2)
              obtain ⟨p3, hp3, at3⟩ := hat.out r1 hr1
              have Gr := HT.out.fr r1 hr1
              obtain ⟨a4, l4, c4, hf4⟩ := Gr.shape
              have b5 := (at3.below hBW).c0
              rw [hf4] at b5
              have b6 := (hB.cell (p := ⟨gk, q + 1, none⟩) hgk).trans cr1
              cases hqt : eqT tx (to q1) (fr r1) with
              | false =>
                have HC := HCUT.out (fun _ => by rw [er1]; exact hqt)
                have HC' : Hid _ := HC
                have kq : ∀ X, Below W.heap.size W X → Calls Yba.prog 7 #[.slice a2 l2 c2, .slice a4 l4 c4] X fun e w' => e = .returned (.bool false) ∧ w' = X := by
                  intro X hX
                  have := equal_calls W _ _ _ _ Gt Gr X hX
                  rw [HF2.out, hf4] at this
                  rw [eqT, HF2.out, hf4] at hqt
                  rw [hqt] at this
                  exact this
                clear HC HCUT hw hlast hqt cr1 at3 hf4 er1 Gr Gt
                go_wp2_with fail
                go_quiet (first | (go_at_call 7; exact Calls.quiet_of_same (kq _ (Below.drewN hBW _))))
                go_wp2_with fail
                have hw1 := wq1 q hq24
                have hw2 := wq2 q hq24
                have hw3 := wq3 q hq24
                have hw4 := wq4 q hq24
                go_region_held_law (fun w' => w'.cell? ⟨gk, st, none⟩ = some (.int .i64 (s1 : Int)) ∧ w'.cell? ⟨gk, q, none⟩ = some (.int .i64 (q1 : Int)) ∧ w'.cell? p1 = some (.slice a1 l1 c1) ∧ w'.cell? ⟨p2.block, p2.off + 1, none⟩ = some (.slice a2 l2 c2))
                  (first | exact HS.out _ hB9 | exact HS.out _ ((Below.drewN hB _).drew) | exact HS.out _ (Below.drewN hB _) | exact HS.out _ ((Below.drewN hB _).alloc (by have := hB.size; simp; omega) _) | exact HS.out _ (((Below.drewN hB _).drew).alloc (by have := hB.size; simp; omega) _))
                  (first | (refine step_append_to _ rfl (some 89) rfl _ _ 26 rfl w3.heap.size 34 i34 _ 2 48 Yba.underlying26 hi34 hz340 hz341 hz342 rfl (by decide) u9 want.length (flat2 want) (by simp [Act.eval]) (World.ownsRow.alloc (w := wr.drewN _) hrw.out _) ⟨wr.heap.size, 0, none⟩ 1 1 [.slice a1 l1 c1, .slice a2 l2 c2] (by simp [Act.eval]) rfl (cells_new _ _ _ _ (by simp)) (by simp [Value.oneCell']) (by decide) (by unfold maxLen; omega) (by omega) (by have := hB.size; simp; omega) _ rfl ?_; intro gw cw w9 hown9 hgrow9 hat9 hlt9; have hB9 : Below w3.heap.size w3 w9 := ((Below.drewN hB _).alloc (by have := hB.size; simp; omega) _).grown hgrow9 (by have := hB.size; simp; omega) (fun k hk => (hrw.out.lt k hk).1); have HR9 : Hid (w9.ownsRow w3.heap.size 34 2 (.slice (some ⟨gw, 0, none⟩) (want.length + 1) cw) (want.length + 1) (flat2 want ++ [.slice a1 l1 c1, .slice a2 l2 c2])) := hown9; clear hown9 hgrow9 hat9 hlt9))
                have HRX : Hid (w9.ownsRow w3.heap.size 34 2 (.slice (some ⟨gw, 0, none⟩) (want.length + 1) cw) (want ++ [(Value.slice a1 l1 c1, Value.slice a2 l2 c2)]).length (flat2 (want ++ [(Value.slice a1 l1 c1, Value.slice a2 l2 c2)]))) := by
                  rw [flat2_snoc, List.length_append]
                  exact HR9
                clear HR9 hw1 hw2 hw3 hw4
                simp only [Exit.then, Act.put, List.setIfInBounds_toArray, List.set_cons_zero, List.set_cons_succ]
                go_wp2_with fail
                exact ⟨⟨q + 1, q + 1, _, by go_num, by go_num, HC', by omega, HRX, hB9⟩, by simp [intOf]; omega⟩
              | true =>
                have HSM : Hid (WInv fr to tx K (q + 1) st want) := hw.out.same (by rw [HM.out]; exact hq2) (by rw [HQ1.out, er1]; exact hqt)
                have kq : ∀ X, Below W.heap.size W X → Calls Yba.prog 7 #[.slice a2 l2 c2, .slice a4 l4 c4] X fun e w' => e = .returned (.bool true) ∧ w' = X := by
                  intro X hX
                  have := equal_calls W _ _ _ _ Gt Gr X hX
                  rw [HF2.out, hf4] at this
                  rw [eqT, HF2.out, hf4] at hqt
                  rw [hqt] at this
                  exact this
                clear HCUT hw hlast hqt cr1 at3 hf4 er1 Gr Gt
                go_wp2_with fail
                go_quiet (first | (go_at_call 7; exact Calls.quiet_of_same (kq _ (Below.drewN hBW _))))
                go_wp2_with fail
                exact ⟨⟨q + 1, st, want, by go_num, by go_num, HSM, by omega, hrw, Below.drewN hB _⟩, by simp [intOf]; omega⟩
          · obtain rfl : q = M := by omega
            have hwf := hw.out.fin HM.out.symm
            subst hwf
            have hrw1 := hrw.out
            rw [HMK.out] at hrw1
            obtain ⟨gw, cw, hu9⟩ : ∃ g c, u9 = .slice (some ⟨g, 0, none⟩) N c := by
              obtain ⟨N', rfl⟩ : ∃ N', N = N' + 1 := ⟨N - 1, by omega⟩
              exact ownsRow_succ hrw1
            subst hu9
            have hBW : Below W.heap.size W wr := hW3.trans (hB.mono hW3.size)
            have HRD : Hid (∀ t, t < N → ∃ x y, Good W x (tx x) ∧ Good W y (tx y) ∧ wr.cell? ⟨gg, t * 2, none⟩ = some x ∧ wr.cell? ⟨gg, t * 2 + 1, none⟩ = some y ∧ wr.cell? ⟨gw, t * 2, none⟩ = some x ∧ wr.cell? ⟨gw, t * 2 + 1, none⟩ = some y) := by
              intro t ht
              have htl : t < (JK fr to tx K).length := by rw [HMK.out]; exact ht
              obtain ⟨⟨i, hi, ei⟩, ⟨j, hj, ej⟩⟩ := JK_mem fr to tx k K hKL.out ((JK fr to tx K)[t]) (List.getElem_mem htl)
              refine ⟨((JK fr to tx K)[t]).1, ((JK fr to tx K)[t]).2, by rw [ei]; exact HT.out.fr i hi, by rw [ej]; exact HT.out.to j hj, ?_, ?_, ?_, ?_⟩
              · rw [hB.cell (p := ⟨gg, t * 2, none⟩) hgg, HMJ.out.cellAt _ (by omega), flat2_at0, List.getElem?_eq_getElem htl]; rfl
              · rw [hB.cell (p := ⟨gg, t * 2 + 1, none⟩) hgg, HMJ.out.cellAt _ (by omega), flat2_at1, List.getElem?_eq_getElem htl]; rfl
              · rw [hrw1.cellAt _ (by omega), flat2_at0, List.getElem?_eq_getElem htl]; rfl
              · rw [hrw1.cellAt _ (by omega), flat2_at1, List.getElem?_eq_getElem htl]; rfl
            clear hrw hrw1 HMJ hw HI hkc hat
            go_wp2_with fail
            generalize wr = w4 at *
            go_loopw [12] (fun i wr => ∃ t : Nat, t ≤ N ∧ i = .int .i64 (t : Int) ∧ ∃ d, wr = w4.drewN d) (fun i _ => N - (intOf i).toNat)
            case atStart => exact ⟨0, Nat.zero_le _, rfl, 0, rfl⟩
            case round =>
              obtain ⟨t, ht, rfl, d, rfl⟩ := hrel
              by_cases htn : t < N
              · obtain ⟨x, y, Gx, Gy, c1, c2, c3, c4⟩ := HRD.out t htn
                obtain ⟨a1, l1, k1, rfl⟩ := Gx.shape
                obtain ⟨a2, l2, k2, rfl⟩ := Gy.shape
                have kx : ∀ X, Below W.heap.size W X → Calls Yba.prog 8 #[.slice a1 l1 k1, .slice a1 l1 k1] X fun e w' => e = .returned (.bool true) ∧ w' = X := fun X hX => same_calls W _ _ Gx X hX
                have ky : ∀ X, Below W.heap.size W X → Calls Yba.prog 8 #[.slice a2 l2 k2, .slice a2 l2 k2] X fun e w' => e = .returned (.bool true) ∧ w' = X := fun X hX => same_calls W _ _ Gy X hX
                have hBd := Below.drewN hBW d
                have c1' : (w4.drewN d).cell? ⟨gg, t * 2, none⟩ = some (.slice a1 l1 k1) := c1
                have c2' : (w4.drewN d).cell? ⟨gg, t * 2 + 1, none⟩ = some (.slice a2 l2 k2) := c2
                have c3' : (w4.drewN d).cell? ⟨gw, t * 2, none⟩ = some (.slice a1 l1 k1) := c3
                have c4' : (w4.drewN d).cell? ⟨gw, t * 2 + 1, none⟩ = some (.slice a2 l2 k2) := c4
                have HX : Hid (∀ m, ∃ d', (w4.drewN d).drewN m = w4.drewN d') := fun m => ⟨d + m, World.drewN_drewN _ _ _⟩
                clear c1 c2 c3 c4
                generalize w4.drewN d = X at *
                go_wp2_with fail
                go_quiet (first | (go_at_call_of 8 (Value.slice a1 l1 k1); exact Calls.quiet_of_same (kx _ (Below.drewN hBd _))) | (go_at_call_of 8 (Value.slice a2 l2 k2); exact Calls.quiet_of_same (ky _ (Below.drewN hBd _))))
                go_wp2_with fail
                exact ⟨⟨t + 1, by omega, by go_num, HX.out _⟩, by simp [intOf]; omega⟩
              · go_wp2_with fail
                go_ret
                exact ⟨rfl, Below.drewN hBW d⟩
end Go.Proofs.Ybulkdrg
