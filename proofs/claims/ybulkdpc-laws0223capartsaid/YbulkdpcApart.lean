/-
  LawS0223CApart, walked.
-/
import Derived.Test.YbulkdpcClone
import Derived.Deep.Cut
import Derived.Lib.ItoaWalk
import Derived.Maps.AppendAt
namespace Go.Proofs.Ybulkdpc
open Go.RowKit
set_option linter.unusedVariables false

/-- The two servers and the two rows of the original. -/
structure Two (w : World) (p C b0 b1 en rn : Nat) (es : Nat → Value) (z : Nat → Int) (sp : List Value) (S : Array Value) (K : Array Value) (X : World) : Prop where
  self : X.heap[p]? = some (.cells S 39 (0, 0))
  copy : X.heap[C]? = some (.cells K 39 (0, 0))
  strs : X.heap[b0]? = some (.cells ((List.range en).map es ++ sp).toArray 9 (0, 0))
  ints : X.heap[b1]? = some (.cells (row4 (fun j => .int .i64 (z j)) (.int .i64 0) rn).toArray 3 (0, 0))
  low : w.heap.size ≤ b0
  l1 : b0 < b1
  l2 : b1 < p
  l3 : p < C
  below : Below w.heap.size w X

theorem Two.setC {w : World} {p C b0 b1 en rn : Nat} {es : Nat → Value} {z : Nat → Int} {sp : List Value} {S K : Array Value} {X : World} (h : Two w p C b0 b1 en rn es z sp S K X) (j : Nat) (v : Value) :
    Two w p C b0 b1 en rn es z sp S (K.setIfInBounds j v) (X.setCell ⟨C, j, none⟩ v) := by
  have hl := h.l1; have h2 := h.l2; have h3 := h.l3; have h0 := h.low
  have hset : ∀ c, c ≠ C → (X.setCell ⟨C, j, none⟩ v).heap[c]? = X.heap[c]? := fun c hc => Below.heap_setCell _ _ _ _ hc
  refine ⟨(hset _ (by omega)).trans h.self, ?_, (hset _ (by omega)).trans h.strs, (hset _ (by omega)).trans h.ints, h.low, h.l1, h.l2, h.l3, h.below.setCell (p := ⟨C, j, none⟩) (by simp; omega) _⟩
  obtain ⟨hlt, hk⟩ := Array.getElem?_eq_some_iff.1 h.copy
  show (X.heap.modify C _)[C]? = _
  rw [Array.getElem?_eq_getElem (by rw [Array.size_modify]; exact hlt), Array.getElem_modify_self, hk]
  rfl
theorem Two.setS {w : World} {p C b0 b1 en rn : Nat} {es : Nat → Value} {z : Nat → Int} {sp : List Value} {S K : Array Value} {X : World} (h : Two w p C b0 b1 en rn es z sp S K X) (j : Nat) (v : Value) :
    Two w p C b0 b1 en rn es z sp (S.setIfInBounds j v) K (X.setCell ⟨p, j, none⟩ v) := by
  have hl := h.l1; have h2 := h.l2; have h3 := h.l3; have h0 := h.low
  have hset : ∀ c, c ≠ p → (X.setCell ⟨p, j, none⟩ v).heap[c]? = X.heap[c]? := fun c hc => Below.heap_setCell _ _ _ _ hc
  refine ⟨?_, (hset _ (by omega)).trans h.copy, (hset _ (by omega)).trans h.strs, (hset _ (by omega)).trans h.ints, h.low, h.l1, h.l2, h.l3, h.below.setCell (p := ⟨p, j, none⟩) (by simp; omega) _⟩
  obtain ⟨hlt, hk⟩ := Array.getElem?_eq_some_iff.1 h.self
  show (X.heap.modify p _)[p]? = _
  rw [Array.getElem?_eq_getElem (by rw [Array.size_modify]; exact hlt), Array.getElem_modify_self, hk]
  rfl
theorem Two.grown {w : World} {p C b0 b1 en rn : Nat} {es : Nat → Value} {z : Nat → Int} {sp : List Value} {S K : Array Value} {X Y : World} (h : Two w p C b0 b1 en rn es z sp S K X) (hb : Below X.heap.size X Y) : Two w p C b0 b1 en rn es z sp S K Y :=
  ⟨(hb.block _ (Array.getElem?_eq_some_iff.1 h.self).1).trans h.self, (hb.block _ (Array.getElem?_eq_some_iff.1 h.copy).1).trans h.copy, (hb.block _ (Array.getElem?_eq_some_iff.1 h.strs).1).trans h.strs, (hb.block _ (Array.getElem?_eq_some_iff.1 h.ints).1).trans h.ints, h.low, h.l1, h.l2, h.l3, h.below.trans (hb.mono h.below.size)⟩
theorem Two.setE {w : World} {p C b0 b1 en rn : Nat} {es : Nat → Value} {z : Nat → Int} {x : Value} {sp : List Value} {S K : Array Value} {X : World} (h : Two w p C b0 b1 en rn es z (x :: sp) S K X) (v : Value) :
    Two w p C b0 b1 en rn es z (v :: sp) S K (X.setCell ⟨b0, en, none⟩ v) := by
  have hl := h.l1; have h2 := h.l2; have h3 := h.l3; have h0 := h.low
  have hset : ∀ c, c ≠ b0 → (X.setCell ⟨b0, en, none⟩ v).heap[c]? = X.heap[c]? := fun c hc => Below.heap_setCell _ _ _ _ hc
  refine ⟨(hset _ (by omega)).trans h.self, (hset _ (by omega)).trans h.copy, ?_, (hset _ (by omega)).trans h.ints, h.low, h.l1, h.l2, h.l3, h.below.setCell (p := ⟨b0, en, none⟩) h0 _⟩
  obtain ⟨hlt, hk⟩ := Array.getElem?_eq_some_iff.1 h.strs
  show (X.heap.modify b0 _)[b0]? = _
  rw [Array.getElem?_eq_getElem (by rw [Array.size_modify]; exact hlt), Array.getElem_modify_self, hk]
  show some (Obj.cells ((((List.range en).map es ++ x :: sp).toArray).setIfInBounds en v) 9 (0, 0)) = _
  congr 2
  apply Array.ext'
  rw [Array.toList_setIfInBounds]
  simp
theorem cell_of_cells {X : World} {p : Nat} {L : Array Value} {t : TypeId} (h : X.heap[p]? = some (.cells L t (0, 0))) (j : Nat) : X.cell? ⟨p, j, none⟩ = L[j]? := by simp [World.cell?, h]
theorem frozen_of_cells {X : World} {p : Nat} {L : Array Value} {t : TypeId} (h : X.heap[p]? = some (.cells L t (0, 0))) (j : Nat) : X.frozen? ⟨p, j, none⟩ = false := by simp [World.frozen?, h]

theorem setCells_one (w : World) (b n : Nat) (v : Value) : w.setCells b (0 + n * 1) [v] = w.setCell ⟨b, n, none⟩ v := by
  rw [Nat.zero_add, Nat.mul_one]; rfl
theorem insert_any (b n vb : Nat) (z : Nat → Int) (w : World) (hn : n ≤ 1024) (hc : ∀ j, j < n → w.cell? ⟨b, j, none⟩ = some (.int .i64 (z j))) (hv : w.cell? ⟨vb, 0, none⟩ = some (.int .i64 (-1))) :
    Calls Yba.prog 12 #[.slice (some ⟨b, 0, none⟩) n n, .int .i64 0, .slice (some ⟨vb, 0, none⟩) 1 1] w fun e w' => ∃ g l c, e = .returned (.slice (some ⟨g, 0, none⟩) l c) ∧ Below w.heap.size w w' := by
  by_cases h0 : n = 0
  · subst h0; exact insert_none b vb w hv
  · exact insert_some b n vb z w (by omega) hn hc hv
theorem row4_get (f : Nat → Value) (x : Value) (n j : Nat) (h : j < n) : (row4 f x n).toArray[j]? = some (f j) := by
  unfold row4
  rw [List.getElem?_toArray, List.getElem?_append_left (by simpa using h)]
  simp [h]
/-- What a row of the call's own says of its cells. -/
theorem own_cells {X : World} {base g n c : Nat} {e : TypeId} {xs : List Value} (h : X.ownsRow base e 1 (.slice (some ⟨g, 0, none⟩) n c) n xs) : base ≤ g ∧ g < X.heap.size ∧ n ≤ c ∧ ∀ j, j < n → X.cell? ⟨g, j, none⟩ = xs[j]? := by
  have hl := h.lt g rfl
  refine ⟨hl.1, hl.2, ?_, fun j hj => h.cellAt j (by omega)⟩
  rcases h.2 with ⟨h1, _⟩ | ⟨g', cap, cur, h1, _, _, hcap, _⟩
  · cases h1
  · cases h1; exact hcap

theorem assert_server (v : Value) (W : World) : (Instr.typeAssert (.iface 32 v) 35 32 true).run Yba.prog W = .ok (.tuple #[v, .bool true]) W := by kernel_rfl

set_option maxHeartbeats 1000000 in
set_option maxRecDepth 100000 in
theorem apart_walk (t0 t1 : Int) (cmd : ByteArray) (ea ra : Option Addr) (en ec rn rc : Nat) (es : Nat → ByteArray) (z : Nat → Int) (w : World) (hen : en ≤ 1024) (hrn : rn ≤ 1024) (hcmd : cmd.size ≤ 140737488355328)
    (hE : Reads w ea en fun j => .string (es j)) (hR : Reads w ra rn fun j => .int .i64 (z j)) :
    Calls Yba.prog 6 #[.int .i64 t0, .int .i64 t1, .string cmd, .slice ea en ec, .slice ra rn rc] w fun e w' => e = .returned (.bool true) ∧ Below w.heap.size w w' := by
  have HE : Hid (Reads w ea en fun j => .string (es j)) := hE
  have HR : Hid (Reads w ra rn fun j => .int .i64 (z j)) := hR
  clear hE hR
  have hta := assert_server
  go_enter Yba.func6, Yba.ntmps6
  go_upto_region 7 with (first
    | (go_at_call 8; refine (build_calls t0 t1 cmd ea ra en ec rn rc es z _ hen hrn HE.out HR.out).mono ?_; rintro e w1 ⟨b1, p, rfl, hbt⟩; have hself := hbt.self)
    | (go_at_call 9; refine (clone_calls t0 t1 cmd p w.heap.size b1 en rn _ hen hrn hself).mono ?_; rintro e w2 ⟨rfl, hcl, hb2⟩))
  obtain ⟨C, hC⟩ : ∃ C, w1.heap.size = C := ⟨_, rfl⟩
  obtain ⟨b0, hb0⟩ : ∃ b0, w.heap.size = b0 := ⟨_, rfl⟩
  have hpC : p < C := by rw [← hC]; exact (Array.getElem?_eq_some_iff.1 hbt.self).1
  have hT : Two w p C b0 b1 en rn (fun j => .string (es j)) z (List.replicate 4 (.string ⟨#[]⟩)) #[.int .i64 t0, .int .i64 t1, .string cmd, .slice (some ⟨b0, 0, none⟩) en (en + 4), .slice (some ⟨b1, 0, none⟩) rn (rn + 4)] #[.int .i64 t0, .int .i64 t1, .string cmd, .slice (some ⟨b0, 0, none⟩) en en, .slice (some ⟨b1, 0, none⟩) rn rn] w2 := by
    have hst := hbt.strs
    rw [← hC, ← hb0]
    have hl1 := hbt.lt1; have hl2 := hbt.lt2
    exact ⟨(hb2.block _ (by omega)).trans hbt.self, hcl, (hb2.block _ (by omega)).trans hst, (hb2.block _ (by omega)).trans hbt.ints, Nat.le_refl _, hl1, hl2, by omega, hbt.below.trans (hb2.mono hbt.below.size)⟩
  rw [hC]
  clear hself hbt hcl hb2 hta hC hb0
  have hne : p ≠ C := by omega
  have k0 := (cell_of_cells hT.copy 0)
  have k1 := (cell_of_cells hT.copy 1)
  have k2 := (cell_of_cells hT.copy 2)
  have f0 := (frozen_of_cells hT.copy 0)
  have f1 := (frozen_of_cells hT.copy 1)
  have f2 := (frozen_of_cells hT.copy 2)
  simp at k0 k1 k2
  go_upto_region 10 with fail
  go_name_world X3 hX3
  have hT3 := ((hT.setC 0 (.int .i64 (wrap64 (t0 + 1)))).setC 1 (.int .i64 (wrap64 (t1 - 1)))).setC 2 (.string (cmd ++ ⟨#[120]⟩))
  rw [hX3] at hT3
  clear hX3 hT k0 k1 k2 f0 f1 f2
  have k3 := cell_of_cells hT3.copy 3
  have f3 := frozen_of_cells hT3.copy 3
  have hCl : C < X3.heap.size := (Array.getElem?_eq_some_iff.1 hT3.copy).1
  simp at k3
  obtain ⟨i9, hi9, hz90, hz91, hz92⟩ := info_parts info9
  have HOLD : Hid (∀ (W : World), W.heap[b0]? = X3.heap[b0]? → ∀ j u, ((List.range en).map fun j => Value.string (es j))[j]? = some u → W.cell? ((⟨b0, 0, none⟩ : Addr).add j) = some u) := by
    intro W hW j u hj
    rw [addr_add, Nat.zero_add]
    have h := hT3.strs
    rw [← hW] at h
    rw [cell_of_cells h j]
    obtain ⟨h1, h2⟩ := List.getElem?_eq_some_iff.1 hj
    have hj' : j < ((List.range en).map fun j => Value.string (es j)).length := h1
    rw [List.getElem?_toArray, List.getElem?_append_left hj']
    exact hj
  have hb0l : b0 < X3.heap.size := (Array.getElem?_eq_some_iff.1 hT3.strs).1
  go_upto_region 11 with (at_builtin; refine wpList_append_grows _ rfl (.tmp 69) (.tmp 70) 30 rfl 9 i9 (.string ⟨#[]⟩) 1 16 Yba.underlying30 hi9 hz90 hz91 hz92 rfl (by decide) _ en en ((List.range en).map fun j => .string (es j)) rfl (by simp) (by simp) (fun b hb => by cases hb; exact HOLD.out _ (Below.heap_alloc _ _ _ hb0l)) ⟨X3.heap.size, 0, none⟩ 1 1 [.string ⟨#[88]⟩] rfl rfl (cell_one_new _ _ _) (by simp [Value.oneCell']) (by omega) (by unfold maxLen; omega) (by omega) ?_; intro v' X4 hown hgrow; obtain ⟨gx, cx, rfl⟩ := ownsRow_succ hown; have hB4 : Below X3.heap.size X3 X4 := ((Below.refl _ X3).alloc (Nat.le_refl _) _).grown hgrow (by simp) (by simp); have hT4 := hT3.grown hB4; have f4 := frozen_of_cells hT4.copy 3; have k4 := cell_of_cells hT4.copy 3; simp at k4)
  go_name_world X5 hX5
  have hown5 := own_cells hown
  have hX5c : ∀ b j, b ≠ C → X5.cell? ⟨b, j, none⟩ = X4.cell? ⟨b, j, none⟩ := fun b j hb => by
    rw [← hX5]; exact World.cell?_of_block (Below.heap_setCell _ _ _ _ hb)
  have hT5 := hT4.setC 3 (.slice (some ⟨gx, 0, none⟩) (en + 1) cx)
  have hsz5 : X5.heap.size = X4.heap.size := by rw [← hX5]; simp [World.setCell]
  rw [hX5] at hT5
  have hgC : C < gx := by have := hown5.1; simp at this; omega
  have hgx5 : gx < X5.heap.size := by rw [hsz5]; exact hown5.2.1
  have hcx : en + 1 ≤ cx := hown5.2.2.1
  have HX : Hid (∀ j, j < en + 1 → X5.cell? ⟨gx, j, none⟩ = (((List.range en).map fun j => Value.string (es j)) ++ [.string ⟨#[88]⟩])[j]?) := fun j hj => by
    rw [hX5c gx j (by omega)]; exact hown5.2.2.2 j hj
  clear hX5 hown5 hX5c hsz5 hT4 hown hgrow hB4 f4 k4 f3 k3 HOLD hT3 hb0l hCl hz90 hz91 hz92 hi9
  have k4 := cell_of_cells hT5.copy 4
  have f4 := frozen_of_cells hT5.copy 4
  have hCl : C < X5.heap.size := by omega
  simp at k4
  have HI : Hid (∀ (W : World), W.heap[b1]? = X5.heap[b1]? → ∀ j, j < rn → W.cell? ⟨b1, j, none⟩ = some (.int .i64 (z j))) := by
    intro W hW j hj
    have h := hT5.ints
    rw [← hW] at h
    rw [cell_of_cells h j]; exact row4_get _ _ _ _ hj
  have hb1l : b1 < X5.heap.size := (Array.getElem?_eq_some_iff.1 hT5.ints).1
  go_upto_region 12 with (go_at_call 12; refine (insert_any b1 rn X5.heap.size z _ hrn (by exact HI.out _ (Below.heap_alloc _ _ _ hb1l)) (by exact (Boxed.new X5 3 (.int .i64 (-1))).cell)).mono ?_; rintro e X6 ⟨gi, li, ci, rfl, hB6⟩; have hB6' : Below X5.heap.size X5 X6 := ((Below.refl _ X5).alloc (Nat.le_refl _) _).trans (hB6.mono (by simp)); have hT6 := hT5.grown hB6'; have f6 := frozen_of_cells hT6.copy 4; have k6 := cell_of_cells hT6.copy 4; simp at k6)
  go_name_world X7 hX7
  have hT7 := hT6.setC 4 (.slice (some ⟨gi, 0, none⟩) li ci)
  rw [hX7] at hT7
  have HX7 : Hid (∀ j, j < en + 1 → X7.cell? ⟨gx, j, none⟩ = (((List.range en).map fun j => Value.string (es j)) ++ [.string ⟨#[88]⟩])[j]?) := fun j hj => by
    rw [← hX7, World.cell?_of_block (Below.heap_setCell _ _ _ _ (by simp; omega)), hB6'.cell (p := ⟨gx, j, none⟩) hgx5]; exact HX.out j hj
  have hgx7 : gx < X7.heap.size := by have := hB6'.size; rw [← hX7]; simp [World.setCell]; omega
  clear hX7 hT6 hT5 hB6 hB6' f6 k6 f4 k4 HX HI hb1l hCl hgx5
  have s3 := cell_of_cells hT7.self 3
  have g3 := frozen_of_cells hT7.self 3
  have hpl : p < X7.heap.size := (Array.getElem?_eq_some_iff.1 hT7.self).1
  have hb0l : b0 < X7.heap.size := (Array.getElem?_eq_some_iff.1 hT7.strs).1
  simp at s3
  obtain ⟨i9, hi9, hz90, hz91, hz92⟩ := info_parts info9
  have HOLD : Hid (∀ (W : World), W.heap[b0]? = X7.heap[b0]? → ∀ j u, ((List.range en).map fun j => Value.string (es j))[j]? = some u → W.cell? ⟨b0, 0 + j, none⟩ = some u) := by
    intro W hW j u hj
    rw [Nat.zero_add]
    have h := hT7.strs
    rw [← hW] at h
    rw [cell_of_cells h j]
    obtain ⟨h1, h2⟩ := List.getElem?_eq_some_iff.1 hj
    have hj' : j < ((List.range en).map fun j => Value.string (es j)).length := h1
    rw [List.getElem?_toArray, List.getElem?_append_left hj']
    exact hj
  have HSP : Hid (∀ (W : World), W.heap[b0]? = X7.heap[b0]? → ∀ j, j < [Value.string ⟨#[89]⟩].length → (W.cell? ⟨b0, 0 + en * 1 + j, none⟩).isSome = true ∧ W.frozen? ⟨b0, 0 + en * 1 + j, none⟩ = false) := by
    intro W hW j hj
    have h := hT7.strs
    rw [← hW] at h
    obtain rfl : j = 0 := by simp at hj; omega
    rw [cell_of_cells h, frozen_of_cells h]
    simp
  have hT8 := ((hT7.setE (.string ⟨#[89]⟩)).setS 3 (.slice (some ⟨b0, 0, none⟩) (en + 1) (en + 4))).grown ((Below.refl _ _).alloc (Nat.le_refl _) (.cells #[.string ⟨#[89]⟩] 9))
  have HT8 : Hid (Two w p C b0 b1 en rn (fun j => .string (es j)) z _ _ _ _) := hT8
  clear hT8
  have hbp : b0 ≠ p := by have := hT7.l1; have := hT7.l2; omega
  have hbp' : p ≠ b0 := fun e => hbp e.symm
  go_upto_region 13 with (at_builtin; refine wpList_append_arg _ rfl (.tmp 87) (.tmp 88) 30 rfl 9 i9 (.string ⟨#[]⟩) 1 16 Yba.underlying30 hi9 hz90 hz91 hz92 rfl (by decide) b0 0 en (en + 4) ((List.range en).map fun j => .string (es j)) rfl (by simp) (by exact HOLD.out _ (Below.heap_alloc _ _ _ hb0l)) ⟨X7.heap.size, 0, none⟩ 1 1 [.string ⟨#[89]⟩] rfl rfl (cell_one_new _ _ _) (by simp [Value.oneCell']) (fun _ => by exact HSP.out _ (Below.heap_alloc _ _ _ hb0l)) (by unfold maxLen; omega) (by omega) (fun _ => ?_) (fun h => absurd h (by omega)); rw [setCells_one])
  go_name_world X8 hX8
  have hT8 := HT8.out
  rw [hX8] at hT8
  have hgb : gx ≠ b0 := by have := hT7.l1; have := hT7.l2; omega
  have hgp : gx ≠ p := by omega
  have HX8 : Hid (∀ j, j < en + 1 → X8.cell? ⟨gx, j, none⟩ = (((List.range en).map fun j => Value.string (es j)) ++ [.string ⟨#[88]⟩])[j]?) := fun j hj => by
    rw [← hX8, World.cell?_of_block (Below.heap_alloc _ _ _ (by simp [World.setCell]; omega)), World.cell?_of_block (Below.heap_setCell _ _ _ _ (by simp; omega)), World.cell?_of_block (Below.heap_setCell _ _ _ _ (by simp; omega))]; exact HX7.out j hj
  clear hX8 HT8 hT7 HX7 HOLD HSP hgx7 hb0l hpl g3 s3 hbp hbp' hz90 hz91 hz92 hi9
  have s0 := cell_of_cells hT8.self 0
  have s1 := cell_of_cells hT8.self 1
  have s2 := cell_of_cells hT8.self 2
  have s3 := cell_of_cells hT8.self 3
  have s4 := cell_of_cells hT8.self 4
  have k3 := cell_of_cells hT8.copy 3
  simp at s0 s1 s2 s3 s4 k3
  have hB8 := hT8.below
  have RE : Reads X8 ea en (fun j => .string (es j)) := fun j hj => by
    obtain ⟨x, hx, hc⟩ := HE.out j hj
    exact ⟨x, hx, (hB8.cell (World.block_lt_of_cell? w _ hc)).trans hc⟩
  have RR : Reads X8 ra rn (fun j => .int .i64 (z j)) := fun j hj => by
    obtain ⟨x, hx, hc⟩ := HR.out j hj
    exact ⟨x, hx, (hB8.cell (World.block_lt_of_cell? w _ hc)).trans hc⟩
  have RS : Reads X8 (some ⟨b1, 0, none⟩) rn (fun j => .int .i64 (z j)) := fun j hj => by
    refine ⟨_, rfl, ?_⟩
    rw [addr_add, Nat.zero_add, cell_of_cells hT8.ints j]; exact row4_get _ _ _ _ hj
  have RB : Reads X8 (some ⟨b0, 0, none⟩) en (fun j => .string (es j)) := fun j hj => by
    refine ⟨_, rfl, ?_⟩
    rw [addr_add, Nat.zero_add, cell_of_cells hT8.strs j, List.getElem?_toArray, List.getElem?_append_left (by simpa using hj)]; simp [hj]
  have RG : Reads X8 (some ⟨gx, 0, none⟩) en (fun j => .string (es j)) := fun j hj => by
    refine ⟨_, rfl, ?_⟩
    rw [addr_add, Nat.zero_add, HX8.out j (by omega), List.getElem?_append_left (by simpa using hj)]; simp [hj]
  have cY : X8.cell? ⟨b0, en, none⟩ = some (.string ⟨#[89]⟩) := by
    rw [cell_of_cells hT8.strs en, List.getElem?_toArray, List.getElem?_append_right (by simp)]; simp
  have cX : X8.cell? ⟨gx, en, none⟩ = some (.string ⟨#[88]⟩) := by
    rw [HX8.out en (by omega), List.getElem?_append_right (by simp)]; simp
  have QE : Hid (Reads X8 ea en (fun j => .string (es j))) := RE
  have QR : Hid (Reads X8 ra rn (fun j => .int .i64 (z j))) := RR
  have QS : Hid (Reads X8 (some ⟨b1, 0, none⟩) rn (fun j => .int .i64 (z j))) := RS
  have QB : Hid (Reads X8 (some ⟨b0, 0, none⟩) en (fun j => .string (es j))) := RB
  have QG : Hid (Reads X8 (some ⟨gx, 0, none⟩) en (fun j => .string (es j))) := RG
  clear RE RR RS RB RG HX8 hT8
  have e0 : (t0 != t0) = false := by simp
  have e1 : (t1 != t1) = false := by simp
  have hq : ∀ q, Below w.heap.size w (X8.drewN q) := fun q => below_drewN hB8 q
  go_wp2_with (go_at_call 11; refine (equal_ints _ _ rn _ _ z _ (by omega) QS.out QR.out).mono ?_; rintro e Y1 ⟨rfl, q1, rfl⟩)
  refine (equal_strings _ _ en _ _ es (X8.drewN q1) (by omega) QB.out QE.out).mono ?_
  rintro e Y2 ⟨rfl, q2, rfl⟩
  go_wp2_with fail
  refine (equal_strings _ _ en _ _ es (X8.drewN (q1 + q2)) (by omega) QG.out QE.out).mono ?_
  rintro e Y3 ⟨rfl, q3, rfl⟩
  go_wp2_with fail
  go_ret
  refine ⟨?_, ?_⟩
  · simp
  · exact below_drewN hB8 _
end Go.Proofs.Ybulkdpc
