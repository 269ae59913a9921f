/-
  The callees of LawS0223CApart: slices.Clip, slices.Equal, slices.Insert at the head, zzs0223cbuild, (*server).Clone.
-/
import Derived.Test.YbulkdpcRepeat
import Derived.Deep.QuietTactic
import Derived.BigQuiet
import Derived.Lib.AppendZerosOnto
import Derived.Deep.RegionWith
import Derived.WalkSmall
import Derived.RangeFuncBox
namespace Go.Proofs.Ybulkdpc
open Go.RowKit
set_option linter.unusedVariables false

set_option maxHeartbeats 400000 in
theorem clip_strings (b len cap : Nat) (w : World) (h : len ≤ cap) (hm : cap ≤ 5000) :
    Calls Yba.prog 16 #[.slice (some ⟨b, 0, none⟩) len cap] w fun e w' => e = .returned (.slice (some ⟨b, 0, none⟩) len len) ∧ w' = w := by
  go_enter Yba.func16, Yba.ntmps16
  go_wp2
  go_ret
  exact ⟨rfl, rfl⟩
set_option maxHeartbeats 400000 in
theorem clip_ints (b len cap : Nat) (w : World) (h : len ≤ cap) (hm : cap ≤ 5000) :
    Calls Yba.prog 17 #[.slice (some ⟨b, 0, none⟩) len cap] w fun e w' => e = .returned (.slice (some ⟨b, 0, none⟩) len len) ∧ w' = w := by
  go_enter Yba.func17, Yba.ntmps17
  go_wp2
  go_ret
  exact ⟨rfl, rfl⟩

/-- A slice's first len cells hold f 0, f 1, .. -/
def Reads (w : World) (a : Option Addr) (len : Nat) (f : Nat → Value) : Prop := ∀ j, j < len → ∃ x, a = some x ∧ w.cell? (x.add j) = some (f j)

set_option maxHeartbeats 400000 in
/-- slices.Equal at []int: the same numbers in both. -/
theorem equal_ints (a1 a2 : Option Addr) (len c1 c2 : Nat) (z : Nat → Int) (w : World) (hm : len ≤ 5000)
    (h1 : Reads w a1 len fun j => .int .i64 (z j)) (h2 : Reads w a2 len fun j => .int .i64 (z j)) :
    Calls Yba.prog 11 #[.slice a1 len c1, .slice a2 len c2] w fun e w' => e = .returned (.bool true) ∧ ∃ q, w' = w.drewN q := by
  go_enter Yba.func11, Yba.ntmps11
  go_wp2
  go_loopw [13] (fun i wr => ∃ k : Nat, k ≤ len ∧ i = .int .i64 k ∧ ∃ q, wr = w.drewN q) (fun i _ => len - (intOf i).toNat)
  case atStart => exact ⟨0, Nat.zero_le _, rfl, 0, rfl⟩
  case round =>
    obtain ⟨k, hk, rfl, q, rfl⟩ := hrel
    by_cases hlt : k < len
    · obtain ⟨x1, rfl, hc1⟩ := h1 k hlt
      obtain ⟨x2, rfl, hc2⟩ := h2 k hlt
      have ht : (z k != z k) = false := by simp
      go_wp2
      go_quiet (fail)
      go_wp2
      exact ⟨⟨k + 1, by omega, by go_num, _, rfl⟩, by simp [intOf]; omega⟩
    · go_wp2
      go_ret
      exact ⟨rfl, _, rfl⟩

set_option maxHeartbeats 400000 in
/-- slices.Equal at []string. -/
theorem equal_strings (a1 a2 : Option Addr) (len c1 c2 : Nat) (z : Nat → ByteArray) (w : World) (hm : len ≤ 5000)
    (h1 : Reads w a1 len fun j => .string (z j)) (h2 : Reads w a2 len fun j => .string (z j)) :
    Calls Yba.prog 10 #[.slice a1 len c1, .slice a2 len c2] w fun e w' => e = .returned (.bool true) ∧ ∃ q, w' = w.drewN q := by
  go_enter Yba.func10, Yba.ntmps10
  go_wp2
  go_loopw [13] (fun i wr => ∃ k : Nat, k ≤ len ∧ i = .int .i64 k ∧ ∃ q, wr = w.drewN q) (fun i _ => len - (intOf i).toNat)
  case atStart => exact ⟨0, Nat.zero_le _, rfl, 0, rfl⟩
  case round =>
    obtain ⟨k, hk, rfl, q, rfl⟩ := hrel
    by_cases hlt : k < len
    · obtain ⟨x1, rfl, hc1⟩ := h1 k hlt
      obtain ⟨x2, rfl, hc2⟩ := h2 k hlt
      go_wp2
      go_quiet (fail)
      go_wp2
      exact ⟨⟨k + 1, by omega, by go_num, _, rfl⟩, by simp [intOf]; omega⟩
    · go_wp2
      go_ret
      exact ⟨rfl, _, rfl⟩

/-- A call of the builtin append whose run is known. -/
theorem wpList_append_run {P : Program} (w : World) {ops : Array Oper} {rest : List Oper} {o : Oper} {a : Act} {Q : Exit → Act → World → Prop} (hgd : o.guard = none) (s x : Operand) (t t' : TypeId)
    (ho : o.op = Op.call { callee := Callee.builtin Builtin.append, args := #[s, x], argTypes := #[t, t'] }) (v1 v2 v : Value) (w' : World) (hs : a.eval s = v1) (hx : a.eval x = v2)
    (hrun : ∀ ty, (Builtin.append_ #[t, t'] ty #[v1, v2]).run P w = .ok v w') (h : wpList P ops Q rest (a.put o.dst v) w') : wpList P ops Q (o :: rest) a w := by
  refine wpList_plain hgd fun K hK => ?_
  have hr := hrun o.type
  unfold Oper.wp
  simp [execOp, ho, resolve, invoke, builtin, hs, hx, hr, Result.andThen]
  exact hK _ _ h
theorem zeros_row (n G : Nat) (h : n + 1 ≤ G) : ([] : List Value).toArray ++ Builtin.zeroCells (Value.int .i64 0).cells (n + 1) ++ Builtin.zeroCells (Value.int .i64 0).cells (G - (n + 1)) = (List.replicate G (Value.int .i64 0)).toArray := by
  apply Array.ext
  · simp [Builtin.zeroCells, Value.cells]; omega
  · intro i h1 h2
    simp [Builtin.zeroCells, Value.cells, Array.getElem_append, Nat.mod_one]

set_option maxHeartbeats 400000 in
theorem insert_none (b vb : Nat) (w : World) (hv : w.cell? ⟨vb, 0, none⟩ = some (.int .i64 (-1))) :
    Calls Yba.prog 12 #[.slice (some ⟨b, 0, none⟩) 0 0, .int .i64 0, .slice (some ⟨vb, 0, none⟩) 1 1] w fun e w' => ∃ g l c, e = .returned (.slice (some ⟨g, 0, none⟩) l c) ∧ Below w.heap.size w w' := by
  obtain ⟨i0, hi0, hz0, hz1, hz2⟩ := info_parts info3
  go_enter Yba.func12, Yba.ntmps12
  go_wp2_with (at_builtin; refine wpList_append_grows _ rfl (.tmp 23) (.tmp 24) 31 rfl 3 i0 (.int .i64 0) 1 8 Yba.underlying31 hi0 hz0 hz1 hz2 rfl (by decide) _ 0 0 [] rfl (fun h => ⟨rfl, rfl⟩) rfl (by intro b hb j u hj; simp at hj) ⟨vb, 0, none⟩ 1 1 [.int .i64 (-1)] rfl rfl (by intro j u hj; cases j with | zero => (simp at hj; subst hj; exact hv) | succ j => simp at hj) (by simp [Value.oneCell']) (by omega) (by unfold maxLen; omega) (by omega) ?_; intro v' w1 hown hgrow; obtain ⟨g, cap, rfl⟩ := ownsRow_succ (k := 0) hown)
  go_ret
  exact ⟨g, _, _, rfl, (Below.refl _ w).grown hgrow (Nat.le_refl _) (by simp)⟩

set_option maxHeartbeats 400000 in
theorem insert_some (b n vb : Nat) (z : Nat → Int) (w : World) (hn0 : 0 < n) (hn : n ≤ 1024) (hc : ∀ j, j < n → w.cell? ⟨b, j, none⟩ = some (.int .i64 (z j))) (hv : w.cell? ⟨vb, 0, none⟩ = some (.int .i64 (-1))) :
    Calls Yba.prog 12 #[.slice (some ⟨b, 0, none⟩) n n, .int .i64 0, .slice (some ⟨vb, 0, none⟩) 1 1] w fun e w' => ∃ g l c, e = .returned (.slice (some ⟨g, 0, none⟩) l c) ∧ Below w.heap.size w w' := by
  obtain ⟨i0, hi0, hz0, hz1, hz2⟩ := info_parts info3
  obtain ⟨G, hG⟩ : ∃ G, G = grownCap w (n + 1) n 3 := ⟨_, rfl⟩
  have hGn : n + 1 ≤ G := by rw [hG]; exact grownCap_ge w _ _ _
  have hGm : G ≤ maxLen := by rw [hG]; exact grownCap_le_maxLen w _ _ _ (by unfold maxLen; omega)
  obtain ⟨ROW, hROW⟩ : ∃ ROW : List Value, ROW = List.replicate G (Value.int .i64 0) := ⟨_, rfl⟩
  have hrz : ∀ ty, (Builtin.append_ #[31, 3] ty #[.slice (some ⟨b, 0, none⟩) 0 n, .int .i64 ((n : Int) + 1)]).run Yba.prog w =
      .ok (.slice (some ⟨w.heap.size, 0, none⟩) (n + 1) G) ((w.alloc (.cells ROW.toArray 3)).drew) := fun ty => by
    have h := Lib.run_append_grow_zeros (P := Yba.prog) w 31 3 ty 3 i0 (.int .i64 0) .i64 .i64 Yba.underlying31 Yba.underlying3 hi0 hz0 (some ⟨b, 0, none⟩) 0 n [] (by rw [hz1]; exact run_firstCells_some w.drew 1 0 ⟨b, 0, none⟩ 0 n [] rfl (by simp)) (n + 1) (by omega) (by omega) (by omega) (by omega) (by rw [hz2]; omega) (by rw [hz2, Nat.zero_add]; exact growslice_fits (by omega) (by omega))
    rw [Nat.zero_add, ← hG] at h
    rw [show ((n : Int) + 1) = ((n + 1 : Nat) : Int) by omega, h]
    have e := zeros_row n G hGn
    rw [← hROW] at e
    rw [e]
    rfl
  have hRl : ROW.length = G := by rw [hROW]; simp
  have HRL : Hid (ROW.length = G) := hRl
  clear hG hROW hRl
  unfold maxLen at hGm
  have HC : Hid (∀ j, j < n → w.cell? ⟨b, j, none⟩ = some (.int .i64 (z j))) := hc
  have hbl : b < w.heap.size := World.block_lt_of_cell? w _ (hc 0 hn0)
  have hvl : vb < w.heap.size := World.block_lt_of_cell? w _ hv
  clear hc
  go_enter Yba.func12, Yba.ntmps12
  obtain ⟨cs, hcs⟩ : ∃ cs : List Value, cs = (List.range n).map fun j => .int .i64 (z j) := ⟨_, rfl⟩
  have HCL : Hid (cs.length = n) := by show _ = _; rw [hcs]; simp
  have HCO : Hid (∀ v ∈ cs, v.oneCell' = true) := by
    intro v hv; rw [hcs] at hv; simp at hv; obtain ⟨j, _, rfl⟩ := hv; rfl
  have HCS : Hid (∀ (W : World), Below w.heap.size w W → ∀ j v, cs[j]? = some v → W.cell? ((⟨b, 0, none⟩ : Addr).add j) = some v) := by
    intro W hW j v hj
    rw [hcs] at hj
    obtain ⟨h1, h2⟩ := List.getElem?_eq_some_iff.1 hj
    simp at h1 h2
    rw [addr_add, Nat.zero_add, ← h2]
    exact (hW.cell (p := ⟨b, j, none⟩) hbl).trans (HC.out j h1)
  clear hcs
  have HV : Hid (∀ (W : World), Below w.heap.size w W → ∀ j v, [Value.int .i64 (-1)][j]? = some v → W.cell? ((⟨vb, 0, none⟩ : Addr).add j) = some v) := by
    intro W hW j v hj
    cases j with
    | zero => simp at hj; subst hj; exact (hW.cell (p := ⟨vb, 0, none⟩) hvl).trans hv
    | succ j => simp at hj
  have HM1 : Hid ([Value.int .i64 (-1)].length = Nat.min 1 (n + 1)) := by
    show 1 = Nat.min 1 (n + 1)
    simp
  have HM2 : Hid (cs.length = Nat.min n n) := by show _ = _; rw [HCL.out]; simp
  have HF1 : Hid (0 + [Value.int .i64 (-1)].length ≤ ROW.length) := by show _ ≤ _; rw [HRL.out]; simp; omega
  have HF2 : Hid (1 + cs.length ≤ (splice ROW 0 [Value.int .i64 (-1)]).length) := by
    show _ ≤ _
    rw [length_splice _ _ _ HF1.out, HRL.out, HCL.out]; omega
  have hwr : IntKind.i64.wrap 1 = 1 := by decide
  have hn1 : (1 : Int) ≤ (n : Int) + 1 := by omega
  have hn0' : 0 ≤ (n : Int) := by omega
  have hG1 : ¬ G = 1 := by omega
  go_wp2_with (first
    | (at_builtin; refine wpList_append_run _ rfl (.tmp 34) (.tmp 39) 31 3 rfl _ _ _ _ rfl rfl hrz ?_)
    | (refine wpList_copy_splice rfl (.tmp 43) (.tmp 44) 31 31 rfl 3 Yba.underlying31 size3 _ _ _ _ _ _ rfl rfl w.heap.size 0 ROW 3 (by exact heap_alloc_new _ _) [.int .i64 (-1)] HM1.out (fun _ => ⟨rfl, _, rfl, HV.out _ (by exact ((Below.refl _ w).alloc (Nat.le_refl _) _).drew)⟩) HF1.out (by simp [Value.oneCell']) w.heap.size w (by exact ((Below.refl _ w).alloc (Nat.le_refl _) _).drew) (Nat.le_refl _) ?_; intro w2 hG2 hB2)
    | fail)
  go_region_law (refine step_copy_splice rfl (.tmp 50) (.tmp 53) 31 31 rfl 3 Yba.underlying31 size3 (some ⟨w.heap.size, 1, none⟩) (some ⟨b, 0, none⟩) n (G - 1) n n (by simp [Act.eval, Act.put]) (by simp [Act.eval, Act.put]) w.heap.size 1 (splice ROW 0 [.int .i64 (-1)]) 3 (by exact hG2.out) cs HM2.out (fun _ => ⟨rfl, _, rfl, HCS.out _ (by exact hB2.drew)⟩) HF2.out HCO.out w.heap.size w (by exact hB2.drew) (Nat.le_refl _) ?_; intro w4 hG4 hB4)
  go_wp2
  go_ret
  exact ⟨_, _, _, rfl, hB4⟩
end Go.Proofs.Ybulkdpc
