/-
  bytes.Equal and zzs0227asame, walked.
-/
import Derived.Test.YbulkdrgChecked
import Derived.WalkKit
import Derived.Below
import Derived.Deep.Slices
import Derived.OwnWalk
import Derived.Laws.IdiomStrings
import Derived.Lib.SliceRun
namespace Go.Proofs.Ybulkdrg
open Go.RowKit
set_option linter.unusedVariables false

/-- A byte slice of the input, readable as long as the input's memory stands. -/
structure Good (W : World) (v : Value) (s : ByteArray) : Prop where
  shape : ∃ ao l c, v = .slice ao l c
  conv : ∀ w', Below W.heap.size W w' → (convert 29 9 v).run Yba.prog w' = .ok (.string s) w'

set_option maxHeartbeats 400000 in
theorem equal_calls (W : World) (u v : Value) (s t : ByteArray) (hu : Good W u s) (hv : Good W v t) (w : World) (hw : Below W.heap.size W w) :
    Calls Yba.prog 7 #[u, v] w fun e w' => e = .returned (.bool (s.toList == t.toList)) ∧ w' = w := by
  have k1 := hu.conv w hw
  have k2 := hv.conv w hw
  go_enter Yba.func7, Yba.ntmps7
  go_wp2_with fail
  go_ret
  simp

set_option maxHeartbeats 400000 in
theorem same_calls (W : World) (v : Value) (s : ByteArray) (hv : Good W v s) (w : World) (hw : Below W.heap.size W w) :
    Calls Yba.prog 8 #[v, v] w fun e w' => e = .returned (.bool true) ∧ w' = w := by
  obtain ⟨ao, l, c, rfl⟩ := hv.shape
  have k1 := equal_calls W _ _ s s hv hv w hw
  simp only [beq_self_eq_true] at k1
  have kn : ∀ w : World, (binOp .eql 29 (.slice ao l c) (.slice none 0 0)).run Yba.prog w = .ok (.bool ao.isNone) w := fun w => Lib.run_eql_slice_nil w 29 5 ao l c 0 0 Yba.underlying29
  go_enter Yba.func8, Yba.ntmps8
  go_wp2_with (go_at_call 7; refine k1.mono ?_; rintro e w1 ⟨rfl, rfl⟩)
  go_ret
  exact ⟨rfl, rfl⟩

/-- A piece of the input at p. -/
structure At (W : World) (p : Addr) (u v : Value) (k : Int) : Prop where
  blk : p.block < W.heap.size
  c0 : W.cell? p = some u
  c1 : W.cell? ⟨p.block, p.off + 1, none⟩ = some v
  c2 : W.cell? ⟨p.block, p.off + 2, none⟩ = some (.int .i64 k)
theorem At.below {W w : World} {p : Addr} {u v : Value} {k : Int} (h : At W p u v k) (hB : Below W.heap.size W w) : At w p u v k :=
  ⟨Nat.lt_of_lt_of_le h.blk hB.size, (hB.cell h.blk).trans h.c0, (hB.cell (p := ⟨p.block, p.off + 1, none⟩) h.blk).trans h.c1, (hB.cell (p := ⟨p.block, p.off + 2, none⟩) h.blk).trans h.c2⟩

/-- The input: its pieces' cells. -/
structure Inp (W : World) (ao : Option Addr) (L : Nat) (fr to : Nat → Value) (fi : Nat → Int) : Prop where
  at0 : ∀ j, j < L → ∃ a, ao = some a ∧ ∃ p, a.add (j * 3) = p ∧ At W p (fr j) (to j) (fi j)
  fr1 : ∀ j, j < L → ∃ ao l c, fr j = .slice ao l c
  to1 : ∀ j, j < L → ∃ ao l c, to j = .slice ao l c

def flat3 (fr to : Nat → Value) (fi : Nat → Int) (n : Nat) : List Value := (List.range n).flatMap fun j => [fr j, to j, .int .i64 (fi j)]

theorem Yba.info37 : (Yba.prog.info? 37).map (fun i => (i.zero, i.size, i.bytes)) = some (some (.agg #[.slice none 0 0, .slice none 0 0, .int .i64 0]), 3, 56) := by kernel_rfl

theorem cells_new (X : World) (l : List Value) (t : TypeId) (n : Nat) (hn : n = X.heap.size) : ∀ j u, l[j]? = some u → (X.alloc (.cells l.toArray t)).cell? ((⟨n, 0, none⟩ : Addr).add j) = some u := by
  intro j u h
  subst hn
  rw [show ((⟨X.heap.size, 0, none⟩ : Addr).add j) = ⟨X.heap.size, j, none⟩ from by simp [Addr.add, eq_comm], World.cell?_alloc_mark]
  simp [h]
theorem flat3_succ (fr to : Nat → Value) (fi : Nat → Int) (n : Nat) : flat3 fr to fi (n + 1) = flat3 fr to fi n ++ [fr n, to n, .int .i64 (fi n)] := by simp [flat3, List.range_succ]

set_option maxHeartbeats 400000 in
theorem build_calls (W : World) (ao : Option Addr) (L cap : Nat) (fr to : Nat → Value) (fi : Nat → Int) (hI : Inp W ao L fr to fi) (hL : L ≤ 1024) (w : World) (hw : Below W.heap.size W w) :
    Calls Yba.prog 5 #[.slice ao L cap] w fun e w' => (e = .returned (.slice (some ⟨w.heap.size, 0, none⟩) L L) ∧ w'.ownsRow w.heap.size 37 3 (.slice (some ⟨w.heap.size, 0, none⟩) L L) L (flat3 fr to fi L)) ∧ Below w.heap.size w w' := by
  obtain ⟨i0, hi0, hz0, hz1, hz2⟩ := info_parts Yba.info37
  go_enter Yba.func5, Yba.ntmps5
  go_wp2_with (at_make; refine wpList_make_own _ rfl _ _ 24 rfl w.heap.size 37 i0 _ 3 Yba.underlying24 hi0 hz0 hz1 _ _ _ L rfl rfl rfl (by rw [hz2]; omega) (by unfold maxLen; omega) (Nat.le_refl _) ?_)
  intro w1 hown hgrow
  go_wp2_with fail
  go_loopw [3, 11] (fun v i wr => ∃ k : Nat, k ≤ L ∧ i = .int .i64 k ∧ v = .slice (some ⟨w.heap.size, 0, none⟩) k L ∧ wr.ownsRow w.heap.size 37 3 (.slice (some ⟨w.heap.size, 0, none⟩) k L) k (flat3 fr to fi k) ∧ Below w.heap.size w wr) (fun _ i _ => L - (intOf i).toNat)
  case atStart => exact ⟨0, Nat.zero_le _, rfl, rfl, hown, (Below.refl _ w).grown hgrow (Nat.le_refl _) (by simp)⟩
  case round =>
    obtain ⟨k, hk, rfl, rfl, hrow, hB⟩ := hrel
    by_cases hlt : k < L
    · obtain ⟨a, rfl, p, hp, hat0⟩ := hI.at0 k hlt
      have hat := hat0.below (hw.trans (hB.mono hw.size))
      obtain ⟨a1, l1, c1, hf⟩ := hI.fr1 k hlt
      obtain ⟨a2, l2, c2, ht⟩ := hI.to1 k hlt
      rw [hf, ht] at hat
      have g0 := hat.c0
      have g1 := hat.c1
      have g2 := hat.c2
      have HF : Hid (fr k = .slice a1 l1 c1) := hf
      have HT : Hid (to k = .slice a2 l2 c2) := ht
      clear hf ht hat0
      go_wp2_with (at_builtin; refine wpList_append_fits _ rfl _ _ 24 rfl w.heap.size 37 i0 3 Yba.underlying24 hi0 hz1 w.heap.size k L _ rfl ((hrow.alloc _).alloc _) ⟨wr.heap.size + 1, 0, none⟩ 1 1 [.slice a1 l1 c1, .slice a2 l2 c2, .int .i64 (fi k)] rfl rfl (cells_new _ _ _ _ (by simp)) (by simp [Value.oneCell']) hlt ?_)
      intro w2 hrow2 hgrow2
      have hB2 : Below w.heap.size w w2 := ((hB.alloc hB.size _).alloc (by have := hB.size; simp; omega) _).grown hgrow2 (by have := hB.size; simp; omega) (by simp)
      have HR : Hid (w2.ownsRow w.heap.size 37 3 (.slice (some ⟨w.heap.size, 0, none⟩) (k + 1) L) (k + 1) (flat3 fr to fi (k + 1))) := by
        rw [flat3_succ, HF.out, HT.out]
        exact hrow2
      clear hrow2 hgrow2
      go_wp2_with fail
      exact ⟨⟨k + 1, by omega, by go_num, rfl, HR.out, hB2⟩, by simp [intOf]; omega⟩
    · obtain rfl : k = L := by omega
      go_wp2_with fail
      go_ret
      exact ⟨⟨rfl, hrow⟩, hB⟩
end Go.Proofs.Ybulkdrg
