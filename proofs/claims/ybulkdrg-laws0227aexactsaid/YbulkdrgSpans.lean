/-
  The join of the kept pieces as a plain function; rangeSet.spans, walked.
-/
import Derived.Test.YbulkdrgBuild
import Derived.BigQuiet
import Derived.Lib.ItoaWalk
import Derived.Deep.QuietTactic
import Derived.RangeFuncBox
namespace Go.Proofs.Ybulkdrg
open Go.RowKit
set_option linter.unusedVariables false

/-! ### The plain function -/
def eqT (tx : Value → ByteArray) (u v : Value) : Bool := (tx u).toList == (tx v).toList
def stepJ (tx : Value → ByteArray) (J : List (Value × Value)) (f t : Value) : List (Value × Value) :=
  match J.reverse with
  | [] => [(f, t)]
  | (a, b) :: r => if eqT tx b f then r.reverse ++ [(a, t)] else J ++ [(f, t)]
def kept (fi : Nat → Int) (n : Int) (i : Nat) : List Nat := (List.range i).filter fun j => decide (fi j < n)
def JK (fr to : Nat → Value) (tx : Value → ByteArray) (K : List Nat) : List (Value × Value) := K.foldl (fun J i => stepJ tx J (fr i) (to i)) []
def flat2 (J : List (Value × Value)) : List Value := J.flatMap fun p => [p.1, p.2]

theorem step_nil (tx : Value → ByteArray) (f t : Value) : stepJ tx [] f t = [(f, t)] := rfl
theorem step_snoc (tx : Value → ByteArray) (J : List (Value × Value)) (a b f t : Value) : stepJ tx (J ++ [(a, b)]) f t = if eqT tx b f then J ++ [(a, t)] else J ++ [(a, b)] ++ [(f, t)] := by simp [stepJ]
theorem JK_nil (fr to : Nat → Value) (tx : Value → ByteArray) : JK fr to tx [] = [] := rfl
theorem JK_snoc (fr to : Nat → Value) (tx : Value → ByteArray) (K : List Nat) (i : Nat) : JK fr to tx (K ++ [i]) = stepJ tx (JK fr to tx K) (fr i) (to i) := by simp [JK]
theorem kept_yes {fi : Nat → Int} {n : Int} {i : Nat} (h : fi i < n) : kept fi n (i + 1) = kept fi n i ++ [i] := by simp [kept, List.range_succ, h]
theorem kept_no {fi : Nat → Int} {n : Int} {i : Nat} (h : ¬ fi i < n) : kept fi n (i + 1) = kept fi n i := by simp [kept, List.range_succ]; omega
theorem kept_lt {fi : Nat → Int} {n : Int} {i : Nat} : ∀ j ∈ kept fi n i, j < i := by intro j h; simp [kept] at h; exact h.1
theorem kept_len (fi : Nat → Int) (n : Int) (i : Nat) : (kept fi n i).length ≤ i := by have := List.length_filter_le (fun j => decide (fi j < n)) (List.range i); simpa [kept] using this

theorem snoc_cases {α : Type} (J : List α) : J = [] ∨ ∃ J' x, J = J' ++ [x] := by
  cases h : J.reverse with
  | nil => exact .inl (by simpa using h)
  | cons x r => exact .inr ⟨r.reverse, x, by have := congrArg List.reverse h; simpa using this⟩

theorem snoc_ind {α : Type} {p : List α → Prop} (h0 : p []) (h1 : ∀ K x, p K → p (K ++ [x])) (K : List α) : p K := by
  have h : ∀ l : List α, p l.reverse := by
    intro l
    induction l with
    | nil => exact h0
    | cons x l ih => rw [List.reverse_cons]; exact h1 _ _ ih
  simpa using h K.reverse

theorem JK_mem (fr to : Nat → Value) (tx : Value → ByteArray) (L : Nat) (K : List Nat) (hK : ∀ j ∈ K, j < L) : ∀ p ∈ JK fr to tx K, (∃ i, i < L ∧ p.1 = fr i) ∧ (∃ i, i < L ∧ p.2 = to i) := by
  induction K using snoc_ind with
  | h0 => intro p h; simp [JK] at h
  | h1 K i ih =>
    have hi : i < L := hK i (by simp)
    have ih' := ih fun j hj => hK j (by simp [hj])
    rw [JK_snoc]
    rcases snoc_cases (JK fr to tx K) with h | ⟨J', ⟨a, b⟩, h⟩
    · rw [h, step_nil]
      intro p hp
      obtain rfl : p = (fr i, to i) := by simpa using hp
      exact ⟨⟨i, hi, rfl⟩, ⟨i, hi, rfl⟩⟩
    · rw [h] at ih' ⊢
      rw [step_snoc]
      have hab := ih' (a, b) (by simp)
      intro p hp
      split at hp
      · simp only [List.mem_append, List.mem_singleton] at hp
        rcases hp with hp | rfl
        · exact ih' p (by simp [hp])
        · exact ⟨hab.1, ⟨i, hi, rfl⟩⟩
      · simp only [List.mem_append, List.mem_singleton] at hp
        rcases hp with (hp | rfl) | rfl
        · exact ih' p (by simp [hp])
        · exact hab
        · exact ⟨⟨i, hi, rfl⟩, ⟨i, hi, rfl⟩⟩

theorem step_len (tx : Value → ByteArray) (J : List (Value × Value)) (f t : Value) : (stepJ tx J f t).length ≤ J.length + 1 := by
  rcases snoc_cases J with rfl | ⟨J', ⟨a, b⟩, rfl⟩
  · simp [step_nil]
  · rw [step_snoc]; split <;> simp
theorem JK_len (fr to : Nat → Value) (tx : Value → ByteArray) (K : List Nat) : (JK fr to tx K).length ≤ K.length := by
  induction K using snoc_ind with
  | h0 => simp [JK]
  | h1 K i ih => rw [JK_snoc]; have := step_len tx (JK fr to tx K) (fr i) (to i); simp; omega

theorem flat2_snoc (J : List (Value × Value)) (a b : Value) : flat2 (J ++ [(a, b)]) = flat2 J ++ [a, b] := by simp [flat2]
theorem flat2_len (J : List (Value × Value)) : (flat2 J).length = J.length * 2 := by
  induction J with
  | nil => rfl
  | cons p J ih => simp [flat2] at ih ⊢; omega
theorem flat2_at0 (J : List (Value × Value)) (k : Nat) : (flat2 J)[k * 2]? = J[k]?.map (·.1) := by
  induction J generalizing k with
  | nil => simp [flat2]
  | cons p J ih =>
    cases k with
    | zero => simp [flat2]
    | succ k => have := ih k; rw [show (k + 1) * 2 = k * 2 + 2 by omega]; simpa [flat2] using this
theorem flat2_at1 (J : List (Value × Value)) (k : Nat) : (flat2 J)[k * 2 + 1]? = J[k]?.map (·.2) := by
  induction J generalizing k with
  | nil => simp [flat2]
  | cons p J ih =>
    cases k with
    | zero => simp [flat2]
    | succ k => have := ih k; rw [show (k + 1) * 2 + 1 = k * 2 + 1 + 2 by omega]; simpa [flat2] using this
theorem flat3_at (fr to : Nat → Value) (fi : Nat → Int) (n k : Nat) (hk : k < n) : (flat3 fr to fi n)[k * 3]? = some (fr k) ∧ (flat3 fr to fi n)[k * 3 + 1]? = some (to k) ∧ (flat3 fr to fi n)[k * 3 + 2]? = some (.int .i64 (fi k)) := by
  have hl : ∀ n, (flat3 fr to fi n).length = n * 3 := by
    intro n
    induction n with
    | zero => rfl
    | succ n ih => rw [flat3_succ]; simp [ih]; omega
  induction n with
  | zero => omega
  | succ n ih =>
    rw [flat3_succ]
    by_cases h : k < n
    · have hi := ih h
      rw [List.getElem?_append_left (by rw [hl]; omega), List.getElem?_append_left (by rw [hl]; omega), List.getElem?_append_left (by rw [hl]; omega)]
      exact hi
    · obtain rfl : k = n := by omega
      rw [List.getElem?_append_right (by rw [hl]; omega), List.getElem?_append_right (by rw [hl]; omega), List.getElem?_append_right (by rw [hl]; omega), hl]
      simp [show k * 3 + 1 - k * 3 = 1 by omega, show k * 3 + 2 - k * 3 = 2 by omega]

/-- The texts of the input's byte slices. -/
structure Txt (W : World) (L : Nat) (fr to : Nat → Value) (tx : Value → ByteArray) : Prop where
  fr : ∀ j, j < L → Good W (fr j) (tx (fr j))
  to : ∀ j, j < L → Good W (to j) (tx (to j))

theorem Below.drewN {B : Nat} {a w : World} (h : Below B a w) (q : Nat) : Below B a (w.drewN q) := h.trans ⟨rfl, rfl, rfl, Nat.le_refl _, fun _ _ => rfl⟩
theorem Yba.info34 : (Yba.prog.info? 34).map (fun i => (i.zero, i.size, i.bytes)) = some (some (.agg #[.slice none 0 0, .slice none 0 0]), 2, 48) := by kernel_rfl

set_option maxHeartbeats 1000000 in
theorem spans_calls (W : World) (L : Nat) (fr to : Nat → Value) (fi : Nat → Int) (tx : Value → ByteArray) (hT : Txt W L fr to tx) (hL : L ≤ 1024) (n : Int) (w : World) (hw : Below W.heap.size W w) (b g : Nat) (hg : g < w.heap.size)
    (hrs : w.ownsRow b 37 3 (.slice (some ⟨g, 0, none⟩) L L) L (flat3 fr to fi L)) :
    Calls Yba.prog 6 #[.slice (some ⟨g, 0, none⟩) L L, .int .i64 n] w fun e w' => (∃ v, e = .returned v ∧ w'.ownsRow w.heap.size 34 2 v (JK fr to tx (kept fi n L)).length (flat2 (JK fr to tx (kept fi n L))) ∧ (JK fr to tx (kept fi n L) = [] → v = .slice none 0 0)) ∧ Below w.heap.size w w' := by
  obtain ⟨i0, hi0, hz0, hz1, hz2⟩ := info_parts Yba.info34
  have hrd : Hid (∀ k, k < L → w.cell? ⟨g, k * 3, none⟩ = some (fr k) ∧ w.cell? ⟨g, k * 3 + 1, none⟩ = some (to k) ∧ w.cell? ⟨g, k * 3 + 2, none⟩ = some (.int .i64 (fi k))) := by
    intro k hk
    rw [hrs.cellAt _ (by omega), hrs.cellAt _ (by omega), hrs.cellAt _ (by omega)]
    exact flat3_at fr to fi L k hk
  clear hrs
  go_enter Yba.func6, Yba.ntmps6
  go_wp2_with fail
  go_loopw [5, 11] (fun v i wr => ∃ k : Nat, k ≤ L ∧ i = .int .i64 k ∧ Hid (wr.ownsRow w.heap.size 34 2 v (JK fr to tx (kept fi n k)).length (flat2 (JK fr to tx (kept fi n k)))) ∧ Hid (JK fr to tx (kept fi n k) = [] → v = .slice none 0 0) ∧ Below w.heap.size w wr) (fun _ i _ => L - (intOf i).toNat)
  case atStart => exact ⟨0, Nat.zero_le _, rfl, World.ownsRow_nil _ _ _ _, fun _ => rfl, Below.refl _ _⟩
  case round =>
    obtain ⟨k, hk, rfl, hrow, hnil, hB⟩ := hrel
    by_cases hlt : k < L
    · obtain ⟨d0, d1, d2⟩ := hrd.out k hlt
      have g0 := (hB.cell (p := ⟨g, k * 3, none⟩) hg).trans d0
      have g1 := (hB.cell (p := ⟨g, k * 3 + 1, none⟩) hg).trans d1
      have g2 := (hB.cell (p := ⟨g, k * 3 + 2, none⟩) hg).trans d2
      obtain ⟨a1, l1, c1, hf⟩ := (hT.fr k hlt).shape
      obtain ⟨a2, l2, c2, ht⟩ := (hT.to k hlt).shape
      have Gf := hT.fr k hlt
      have HF : Hid (fr k = .slice a1 l1 c1) := hf
      have HT : Hid (to k = .slice a2 l2 c2) := ht
      rw [hf] at g0
      rw [ht] at g1
      clear hf ht d0 d1 d2
      by_cases hn : fi k < n
      · rcases snoc_cases (JK fr to tx (kept fi n k)) with hJ | ⟨J', ⟨x, y⟩, hJ⟩
        · have HJ : Hid (JK fr to tx (kept fi n (k + 1)) = [(fr k, to k)]) := by
            show _ = _
            rw [kept_yes hn, JK_snoc, hJ, step_nil]
          obtain rfl := hnil.out hJ
          clear hrow hnil hJ
          go_wp2_with fail
          go_name_world X hX
          have hXB : Below w.heap.size w X := by subst hX; exact hB.alloc hB.size _
          have hXs : Hid (X.heap.size = wr.heap.size + 1) := by subst hX; exact World.size_alloc _ _
          have q0 : X.cell? ⟨wr.heap.size, 0, none⟩ = some (.slice a1 l1 c1) := by subst hX; exact World.cell?_alloc_mark _ _ _ _ _
          have q1 : X.cell? ⟨wr.heap.size, 1, none⟩ = some (.slice a2 l2 c2) := by subst hX; exact World.cell?_alloc_mark _ _ _ _ _
          clear hX
          go_quiet (fail)
          go_wp2_with (at_builtin; refine wpList_append_own _ rfl _ _ 26 rfl w.heap.size 34 i0 _ 2 48 Yba.underlying26 hi0 hz0 hz1 hz2 rfl (by decide) _ 0 [] rfl (World.ownsRow_nil _ _ _ _) ⟨X.heap.size, 0, none⟩ 1 1 [.slice a1 l1 c1, .slice a2 l2 c2] rfl rfl (cells_new _ _ _ _ (by simp)) (by simp [Value.oneCell']) (by unfold maxLen; omega) (by omega) (by have := hXB.size; simp; omega) ?_)
          intro v' w2 hrow2 hgrow2 hnil2
          have hB2 : Below w.heap.size w w2 := ((Below.drewN hXB nq).alloc (by have := hXB.size; simp; omega) _).grown hgrow2 (by have := hXB.size; simp; omega) (by simp [Value.ownBlock])
          have HR : Hid (w2.ownsRow w.heap.size 34 2 v' (JK fr to tx (kept fi n (k + 1))).length (flat2 (JK fr to tx (kept fi n (k + 1))))) := by
            rw [HJ.out, HF.out, HT.out]
            exact hrow2
          have HN : Hid (JK fr to tx (kept fi n (k + 1)) = [] → v' = .slice none 0 0) := by rw [HJ.out]; intro h; cases h
          clear hrow2 hgrow2 hnil2
          go_wp2_with fail
          exact ⟨⟨k + 1, by omega, by go_num, HR, HN, hB2⟩, by simp [intOf]; omega⟩
        · have hlen : (JK fr to tx (kept fi n k)).length ≤ 1024 := by have := JK_len fr to tx (kept fi n k); have := kept_len fi n k; omega
          have hm := JK_mem fr to tx L (kept fi n k) (fun j hj => Nat.lt_of_lt_of_le (kept_lt j hj) hk) (x, y) (by rw [hJ]; simp)
          obtain ⟨-, j, hj, hy⟩ := hm
          have hy' : y = to j := hy
          subst hy'
          clear hy
          have Gy := hT.to j hj
          obtain ⟨a3, l3, c3, hy3⟩ := Gy.shape
          have hr0 := hrow.out
          rw [hJ] at hr0
          rw [hJ] at hlen
          have hl1 : (J' ++ [(x, to j)]).length = J'.length + 1 := by simp
          rw [hl1] at hr0 hlen
          obtain ⟨gj, cj, rfl⟩ := ownsRow_succ hr0
          have gy : wr.cell? ⟨gj, J'.length * 2 + 1, none⟩ = some (.slice a3 l3 c3) := by
            rw [hr0.cellAt _ (by omega), flat2_at1, hy3]
            simp
          have gz := hr0.frozenAt (J'.length * 2 + 1)
          have hgl : gj < wr.heap.size := (hr0.lt gj rfl).2
          have hgw : w.heap.size ≤ gj := (hr0.lt gj rfl).1
          have HR0 : Hid (wr.ownsRow w.heap.size 34 2 (.slice (some ⟨gj, 0, none⟩) (J'.length + 1) cj) (J'.length + 1) (flat2 (J' ++ [(x, to j)]))) := hr0
          clear hr0 hrow hnil
          cases hq : eqT tx (to j) (fr k) with
          | true =>
            have kq : ∀ X, Below W.heap.size W X → Calls Yba.prog 7 #[.slice a3 l3 c3, .slice a1 l1 c1] X fun e w' => e = .returned (.bool true) ∧ w' = X := by
              intro X hX
              have := equal_calls W _ _ _ _ Gy Gf X hX
              rw [hy3, HF.out] at this
              rw [eqT, hy3, HF.out] at hq
              rw [hq] at this
              exact this
            have HJ : Hid (JK fr to tx (kept fi n (k + 1)) = J' ++ [(x, to k)]) := by
              show _ = _
              rw [kept_yes hn, JK_snoc, hJ, step_snoc, if_pos hq]
            clear hJ hq hy3
            go_wp2_with fail
            go_name_world X hX
            have hXB : Below w.heap.size w X := by subst hX; exact hB.alloc hB.size _
            have hXs : Hid (X.heap.size = wr.heap.size + 1) := by subst hX; exact World.size_alloc _ _
            have q0 : X.cell? ⟨wr.heap.size, 0, none⟩ = some (.slice a1 l1 c1) := by subst hX; exact World.cell?_alloc_mark _ _ _ _ _
            have q1 : X.cell? ⟨wr.heap.size, 1, none⟩ = some (.slice a2 l2 c2) := by subst hX; exact World.cell?_alloc_mark _ _ _ _ _
            have HX : Hid (X.ownsRow w.heap.size 34 2 (.slice (some ⟨gj, 0, none⟩) (J'.length + 1) cj) (J'.length + 1) (flat2 (J' ++ [(x, to j)]))) := by subst hX; exact HR0.out.alloc _
            have qy : X.cell? ⟨gj, J'.length * 2 + 1, none⟩ = some (.slice a3 l3 c3) := by subst hX; rw [← gy]; exact World.cell?_of_block (Below.heap_alloc _ _ _ hgl)
            have qz : X.frozen? ⟨gj, J'.length * 2 + 1, none⟩ = false := HX.out.frozenAt _
            clear hX gy gz HR0
            go_quiet (first | (go_at_call 7; exact Calls.quiet_of_same (kq _ (hw.trans ((Below.drewN hXB _).mono hw.size)))))
            have HR : Hid (((X.drewN nq).setCell ⟨gj, J'.length * 2 + 1, none⟩ (.slice a2 l2 c2)).ownsRow w.heap.size 34 2 (.slice (some ⟨gj, 0, none⟩) (J'.length + 1) cj) (JK fr to tx (kept fi n (k + 1))).length (flat2 (JK fr to tx (kept fi n (k + 1))))) := by
              have h := (World.ownsRow.stored (w := X.drewN nq) HX.out (J'.length * 2 + 1) (.slice a2 l2 c2)).1
              rw [HJ.out, flat2_snoc, HT.out]
              rw [flat2_snoc, List.set_append_right _ _ (by rw [flat2_len]; omega), flat2_len, show J'.length * 2 + 1 - J'.length * 2 = 1 by omega] at h
              have hl2 : (J' ++ [(x, Value.slice a2 l2 c2)]).length = J'.length + 1 := by simp
              rw [hl2]
              exact h
            have HN : Hid (JK fr to tx (kept fi n (k + 1)) = [] → Value.slice (some ⟨gj, 0, none⟩) (J'.length + 1) cj = .slice none 0 0) := by rw [HJ.out]; intro h; simp at h
            clear HX
            go_wp2_with fail
            exact ⟨⟨k + 1, by omega, by go_num, HR, HN, (Below.drewN hXB nq).setCell (p := ⟨gj, J'.length * 2 + 1, none⟩) hgw _⟩, by simp [intOf]; omega⟩
          | false =>
            have kq : ∀ X, Below W.heap.size W X → Calls Yba.prog 7 #[.slice a3 l3 c3, .slice a1 l1 c1] X fun e w' => e = .returned (.bool false) ∧ w' = X := by
              intro X hX
              have := equal_calls W _ _ _ _ Gy Gf X hX
              rw [hy3, HF.out] at this
              rw [eqT, hy3, HF.out] at hq
              rw [hq] at this
              exact this
            have HJ : Hid (JK fr to tx (kept fi n (k + 1)) = J' ++ [(x, to j)] ++ [(fr k, to k)]) := by
              show _ = _
              rw [kept_yes hn, JK_snoc, hJ, step_snoc, if_neg (by rw [hq]; simp)]
            clear hJ hq hy3
            go_wp2_with fail
            go_name_world X hX
            have hXB : Below w.heap.size w X := by subst hX; exact hB.alloc hB.size _
            have hXs : Hid (X.heap.size = wr.heap.size + 1) := by subst hX; exact World.size_alloc _ _
            have q0 : X.cell? ⟨wr.heap.size, 0, none⟩ = some (.slice a1 l1 c1) := by subst hX; exact World.cell?_alloc_mark _ _ _ _ _
            have q1 : X.cell? ⟨wr.heap.size, 1, none⟩ = some (.slice a2 l2 c2) := by subst hX; exact World.cell?_alloc_mark _ _ _ _ _
            have HX : Hid (X.ownsRow w.heap.size 34 2 (.slice (some ⟨gj, 0, none⟩) (J'.length + 1) cj) (J'.length + 1) (flat2 (J' ++ [(x, to j)]))) := by subst hX; exact HR0.out.alloc _
            have qy : X.cell? ⟨gj, J'.length * 2 + 1, none⟩ = some (.slice a3 l3 c3) := by subst hX; rw [← gy]; exact World.cell?_of_block (Below.heap_alloc _ _ _ hgl)
            clear hX gy gz HR0
            go_quiet (first | (go_at_call 7; exact Calls.quiet_of_same (kq _ (hw.trans ((Below.drewN hXB _).mono hw.size)))))
            go_wp2_with (at_builtin; refine wpList_append_own _ rfl _ _ 26 rfl w.heap.size 34 i0 _ 2 48 Yba.underlying26 hi0 hz0 hz1 hz2 rfl (by decide) _ (J'.length + 1) (flat2 (J' ++ [(x, to j)])) rfl (World.ownsRow.alloc (w := X.drewN nq) HX.out _) ⟨X.heap.size, 0, none⟩ 1 1 [.slice a1 l1 c1, .slice a2 l2 c2] rfl rfl (cells_new _ _ _ _ (by simp)) (by simp [Value.oneCell']) (by unfold maxLen; omega) (by omega) (by have := hXB.size; simp; omega) ?_)
            intro v' w2 hrow2 hgrow2 hnil2
            have hB2 : Below w.heap.size w w2 := ((Below.drewN hXB nq).alloc (by have := hXB.size; simp; omega) _).grown hgrow2 (by have := hXB.size; simp; omega) (by intro k hk; simp [Value.ownBlock] at hk; omega)
            have HR : Hid (w2.ownsRow w.heap.size 34 2 v' (JK fr to tx (kept fi n (k + 1))).length (flat2 (JK fr to tx (kept fi n (k + 1))))) := by
              rw [HJ.out, flat2_snoc, HF.out, HT.out]
              have hl2 : (J' ++ [(x, to j)] ++ [(Value.slice a1 l1 c1, Value.slice a2 l2 c2)]).length = J'.length + 1 + 1 := by simp
              rw [hl2]
              exact hrow2
            have HN : Hid (JK fr to tx (kept fi n (k + 1)) = [] → v' = .slice none 0 0) := by rw [HJ.out]; intro h; simp at h
            clear hrow2 hgrow2 hnil2
            go_wp2_with fail
            exact ⟨⟨k + 1, by omega, by go_num, HR, HN, hB2⟩, by simp [intOf]; omega⟩
      · have hn' : n ≤ fi k := by omega
        go_wp2_with fail
        exact ⟨⟨k + 1, by omega, by go_num, by rw [kept_no hn]; exact hrow.out.alloc _, by rw [kept_no hn]; exact hnil, hB.alloc hB.size _⟩, by simp [intOf]; omega⟩
    · obtain rfl : k = L := by omega
      go_wp2_with fail
      go_ret
      exact ⟨⟨_, rfl, hrow, hnil⟩, hB⟩
end Go.Proofs.Ybulkdrg
