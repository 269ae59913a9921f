/-
  The path form's own methods, walked: put, pop, slash.
-/
import Derived.Test.YbulkdsiDoorChecked
import Derived.WalkKit
import Derived.Below
import Derived.OwnWalk
import Derived.Laws.IdiomStrings
import Derived.BigQuiet
import Derived.Deep.QuietTactic
import Derived.Deep.RegionWith
namespace Go.Proofs.YbulkdsiDoor
open Go.RowKit
set_option linter.unusedVariables false

/-- The block of m and the block of its form's bytes, in a world that has kept all that lay below. -/
structure Sw (B : World) (mb o : Nat) (C D : Array Value) (w : World) : Prop where
  blk : w.heap[mb]? = some (.cells C 36 (0, 0))
  obk : w.heap[o]? = some (.cells D 5 (0, 0))
  lt : mb < o
  bel : Below mb B w

theorem Below.drewN {B : Nat} {a w : World} (h : Below B a w) (q : Nat) : Below B a (w.drewN q) := h.trans ⟨rfl, rfl, rfl, Nat.le_refl _, fun _ _ => rfl⟩
section
variable {B : World} {mb o : Nat} {C D : Array Value} {w : World}
theorem Sw.mlt (h : Sw B mb o C D w) : mb < w.heap.size := (Array.getElem?_eq_some_iff.1 h.blk).1
theorem Sw.olt (h : Sw B mb o C D w) : o < w.heap.size := (Array.getElem?_eq_some_iff.1 h.obk).1
theorem Sw.cm (h : Sw B mb o C D w) (j : Nat) : w.cell? ⟨mb, j, none⟩ = C[j]? := by simp [World.cell?, h.blk]
theorem Sw.fm (h : Sw B mb o C D w) (j : Nat) : w.frozen? ⟨mb, j, none⟩ = false := by simp [World.frozen?, h.blk]
theorem Sw.co (h : Sw B mb o C D w) (j : Nat) : w.cell? ⟨o, j, none⟩ = D[j]? := by simp [World.cell?, h.obk]
theorem Sw.fo (h : Sw B mb o C D w) (j : Nat) : w.frozen? ⟨o, j, none⟩ = false := by simp [World.frozen?, h.obk]
theorem Sw.setm (h : Sw B mb o C D w) (j : Nat) (v : Value) : Sw B mb o (C.setIfInBounds j v) D (w.setCell ⟨mb, j, none⟩ v) :=
  ⟨heap_setCell_same w mb j C 36 v h.blk, (heap_setCell_other w ⟨mb, j, none⟩ o v (by have := h.lt; show o ≠ mb; omega)).trans h.obk, h.lt, h.bel.setCell (p := ⟨mb, j, none⟩) (Nat.le_refl _) v⟩
theorem Sw.seto (h : Sw B mb o C D w) (j : Nat) (v : Value) : Sw B mb o C (D.setIfInBounds j v) (w.setCell ⟨o, j, none⟩ v) :=
  ⟨(heap_setCell_other w ⟨o, j, none⟩ mb v (by have := h.lt; show mb ≠ o; omega)).trans h.blk, heap_setCell_same w o j D 5 v h.obk, h.lt, h.bel.setCell (p := ⟨o, j, none⟩) (by have := h.lt; show mb ≤ o; omega) v⟩
theorem Sw.alloc (h : Sw B mb o C D w) (x : Obj) : Sw B mb o C D (w.alloc x) :=
  ⟨(Below.heap_alloc w x mb h.mlt).trans h.blk, (Below.heap_alloc w x o h.olt).trans h.obk, h.lt, h.bel.alloc (Nat.le_of_lt h.mlt) x⟩
theorem Sw.drewN (h : Sw B mb o C D w) (q : Nat) : Sw B mb o C D (w.drewN q) := ⟨h.blk, h.obk, h.lt, Below.drewN h.bel q⟩
theorem Sw.drew (h : Sw B mb o C D w) : Sw B mb o C D w.drew := ⟨h.blk, h.obk, h.lt, h.bel.drew⟩
end

/-- The cells of m. -/
def mc (cb : Nat) (found : ByteArray) (part : Int) (out : Value) (over held : Int) : Array Value :=
  #[.pointer (some ⟨cb, 0, none⟩), .pointer none, .string ⟨#[]⟩, .string found, .int .u8 part, out, .int .i64 over, .int .i8 held, .slice none 0 0, .int .i64 0, .int .i8 0, .bool false, .int .u8 0, .int .u8 0]
def outV (o len : Nat) : Value := .slice (some ⟨o, 0, none⟩) len 2
def bytes2 (x y : Int) : Array Value := #[.int .u8 x, .int .u8 y]

set_option maxHeartbeats 400000 in
theorem put_full (B : World) (mb o cb : Nat) (found : ByteArray) (part over held x y c : Int) (w : World) (h : Sw B mb o (mc cb found part (outV o 2) over held) (bytes2 x y) w) :
    Calls Ybad.prog 29 #[.pointer (some ⟨mb, 5, none⟩), .int .u8 c] w fun e w' => e = .returned (.tuple #[]) ∧ Sw B mb o (mc cb found part (outV o 2) over held) (bytes2 x y) w' := by
  have k5 : w.cell? ⟨mb, 5, none⟩ = some (.slice (some ⟨o, 0, none⟩) 2 2) := h.cm 5
  go_enter Ybad.func29, Ybad.ntmps29
  go_wp2_with fail
  go_quiet (fail)
  go_wp2_with fail
  go_end0
  exact ⟨rfl, h.drewN nq⟩

set_option maxHeartbeats 400000 in
theorem put_room (B : World) (mb o cb : Nat) (found : ByteArray) (part over held x y c : Int) (w : World) (h : Sw B mb o (mc cb found part (outV o 0) over held) (bytes2 x y) w) :
    Calls Ybad.prog 29 #[.pointer (some ⟨mb, 5, none⟩), .int .u8 c] w fun e w' => e = .returned (.tuple #[]) ∧ Sw B mb o (mc cb found part (outV o 1) over held) (bytes2 c y) w' := by
  have k5 : w.cell? ⟨mb, 5, none⟩ = some (.slice (some ⟨o, 0, none⟩) 0 2) := h.cm 5
  go_enter Ybad.func29, Ybad.ntmps29
  go_wp2_with fail
  go_quiet (fail)
  have hX := h.drewN nq
  generalize w.drewN nq = X at hX ⊢
  clear h k5
  have k5 : X.cell? ⟨mb, 5, none⟩ = some (.slice (some ⟨o, 0, none⟩) 0 2) := hX.cm 5
  have hm := hX.mlt
  have ho := hX.olt
  have hne : mb ≠ o := by have := hX.lt; omega
  have hn1 : mb ≠ X.heap.size := by omega
  have hn2 : o ≠ X.heap.size := by omega
  have c0 : X.cell? ⟨o, 0, none⟩ = some (.int .u8 x) := hX.co 0
  have z0 := hX.fo 0
  have z5 := hX.fm 5
  go_wp2_with fail
  go_end0
  exact ⟨rfl, ((hX.seto 0 (.int .u8 c)).setm 5 (.slice (some ⟨o, 0, none⟩) 1 2)).alloc _⟩

set_option maxHeartbeats 400000 in
theorem put_one (B : World) (mb o cb : Nat) (found : ByteArray) (part over held x y c : Int) (w : World) (h : Sw B mb o (mc cb found part (outV o 1) over held) (bytes2 x y) w) :
    Calls Ybad.prog 29 #[.pointer (some ⟨mb, 5, none⟩), .int .u8 c] w fun e w' => e = .returned (.tuple #[]) ∧ Sw B mb o (mc cb found part (outV o 2) over held) (bytes2 x c) w' := by
  have k5 : w.cell? ⟨mb, 5, none⟩ = some (.slice (some ⟨o, 0, none⟩) 1 2) := h.cm 5
  go_enter Ybad.func29, Ybad.ntmps29
  go_wp2_with fail
  go_quiet (fail)
  have hX := h.drewN nq
  generalize w.drewN nq = X at hX ⊢
  clear h k5
  have k5 : X.cell? ⟨mb, 5, none⟩ = some (.slice (some ⟨o, 0, none⟩) 1 2) := hX.cm 5
  have hm := hX.mlt
  have ho := hX.olt
  have hne : mb ≠ o := by have := hX.lt; omega
  have hn1 : mb ≠ X.heap.size := by omega
  have hn2 : o ≠ X.heap.size := by omega
  have c0 : X.cell? ⟨o, 1, none⟩ = some (.int .u8 y) := hX.co 1
  have z0 := hX.fo 1
  have z5 := hX.fm 5
  go_wp2_with fail
  go_end0
  exact ⟨rfl, ((hX.seto 1 (.int .u8 c)).setm 5 (.slice (some ⟨o, 0, none⟩) 2 2)).alloc _⟩

/-! ### pop -/
set_option maxHeartbeats 400000 in
theorem last_none (o : Nat) (w : World) : Calls Ybad.prog 31 #[.slice (some ⟨o, 0, none⟩) 0 2, .int .u8 47] w fun e w' => e = .returned (.int .i64 (-1)) ∧ w' = w := by
  go_enter Ybad.func31, Ybad.ntmps31
  go_wp2_with fail
  go_loop [5] (fun i => i = .int .i64 (-1)) (fun _ => 0)
  case atStart => rfl
  case round =>
    subst hrel
    go_wp2_with fail
    go_ret
    exact ⟨rfl, rfl⟩

set_option maxHeartbeats 400000 in
theorem last_two (o : Nat) (y : Int) (hy : ¬ y = 47) (w : World) (c0 : w.cell? ⟨o, 0, none⟩ = some (.int .u8 47)) (c1 : w.cell? ⟨o, 1, none⟩ = some (.int .u8 y)) :
    Calls Ybad.prog 31 #[.slice (some ⟨o, 0, none⟩) 2 2, .int .u8 47] w fun e w' => e = .returned (.int .i64 0) ∧ w' = w := by
  have hy' : (y == 47) = false := by simp [hy]
  go_enter Ybad.func31, Ybad.ntmps31
  go_wp2_with fail
  go_loop [5] (fun i => i = .int .i64 1 ∨ i = .int .i64 0) (fun i => (intOf i).toNat)
  case atStart => exact .inl rfl
  case round =>
    rcases hrel with rfl | rfl
    · go_wp2_with fail
      exact ⟨.inr rfl, by simp [intOf]⟩
    · go_wp2_with fail
      go_ret
      exact ⟨rfl, rfl⟩

theorem index_none (o : Nat) (w : World) : Calls Ybad.prog 30 #[.slice (some ⟨o, 0, none⟩) 0 2, .int .u8 47] w fun e w' => e = .returned (.int .i64 (-1)) ∧ w' = w := by
  go_enter Ybad.func30, Ybad.ntmps30
  go_wp2_with (go_at_call 31; refine (last_none o _).mono ?_; rintro e w1 ⟨rfl, rfl⟩)
  go_ret
  exact ⟨rfl, rfl⟩
theorem index_two (o : Nat) (y : Int) (hy : ¬ y = 47) (w : World) (c0 : w.cell? ⟨o, 0, none⟩ = some (.int .u8 47)) (c1 : w.cell? ⟨o, 1, none⟩ = some (.int .u8 y)) :
    Calls Ybad.prog 30 #[.slice (some ⟨o, 0, none⟩) 2 2, .int .u8 47] w fun e w' => e = .returned (.int .i64 0) ∧ w' = w := by
  go_enter Ybad.func30, Ybad.ntmps30
  go_wp2_with (go_at_call 31; refine (last_two o y hy _ c0 c1).mono ?_; rintro e w1 ⟨rfl, rfl⟩)
  go_ret
  exact ⟨rfl, rfl⟩

set_option maxHeartbeats 400000 in
theorem pop_over (B : World) (mb o cb len : Nat) (found : ByteArray) (part over held x y : Int) (h0 : 0 < over) (h1 : over ≤ 10000) (w : World) (h : Sw B mb o (mc cb found part (outV o len) over held) (bytes2 x y) w) :
    Calls Ybad.prog 28 #[.pointer (some ⟨mb, 5, none⟩)] w fun e w' => e = .returned (.tuple #[]) ∧ Sw B mb o (mc cb found part (outV o len) (over - 1) held) (bytes2 x y) w' := by
  have k6 : w.cell? ⟨mb, 6, none⟩ = some (.int .i64 over) := h.cm 6
  have z6 := h.fm 6
  go_enter Ybad.func28, Ybad.ntmps28
  go_wp2_with fail
  exact bodyPost_ret (v := .tuple #[]) (by simp [results, Ybad.results28, go_sem]) rfl ⟨rfl, h.setm 6 (.int .i64 (over - 1))⟩
set_option maxHeartbeats 400000 in
theorem pop_two (B : World) (mb o cb : Nat) (found : ByteArray) (part held y : Int) (hy : ¬ y = 47) (w : World) (h : Sw B mb o (mc cb found part (outV o 2) 0 held) (bytes2 47 y) w) :
    Calls Ybad.prog 28 #[.pointer (some ⟨mb, 5, none⟩)] w fun e w' => e = .returned (.tuple #[]) ∧ Sw B mb o (mc cb found part (outV o 0) 0 held) (bytes2 47 y) w' := by
  have k6 : w.cell? ⟨mb, 6, none⟩ = some (.int .i64 0) := h.cm 6
  have z5 := h.fm 5
  have k5 : w.cell? ⟨mb, 5, none⟩ = some (.slice (some ⟨o, 0, none⟩) 2 2) := h.cm 5
  have c0 : w.cell? ⟨o, 0, none⟩ = some (.int .u8 47) := h.co 0
  have c1 : w.cell? ⟨o, 1, none⟩ = some (.int .u8 y) := h.co 1
  go_enter Ybad.func28, Ybad.ntmps28
  go_wp2_with fail
  go_region_with (go_at_call 30; refine (index_two o y hy _ (by exact c0) (by exact c1)).mono ?_; rintro e w1 ⟨rfl, rfl⟩)
  all_goals go_wp2_with fail
  all_goals go_end0
  all_goals exact ⟨rfl, (h.setm 5 (.slice (some ⟨o, 0, none⟩) 0 2)).drew⟩

set_option maxHeartbeats 400000 in
theorem pop_none (B : World) (mb o cb : Nat) (found : ByteArray) (part held x y : Int) (w : World) (h : Sw B mb o (mc cb found part (outV o 0) 0 held) (bytes2 x y) w) :
    Calls Ybad.prog 28 #[.pointer (some ⟨mb, 5, none⟩)] w fun e w' => e = .returned (.tuple #[]) ∧ Sw B mb o (mc cb found part (outV o 0) 0 held) (bytes2 x y) w' := by
  have k6 : w.cell? ⟨mb, 6, none⟩ = some (.int .i64 0) := h.cm 6
  have z5 := h.fm 5
  have k5 : w.cell? ⟨mb, 5, none⟩ = some (.slice (some ⟨o, 0, none⟩) 0 2) := h.cm 5
  go_enter Ybad.func28, Ybad.ntmps28
  go_wp2_with fail
  go_region_with (go_at_call 30; refine (index_none o _).mono ?_; rintro e w1 ⟨rfl, rfl⟩)
  all_goals go_wp2_with fail
  all_goals go_end0
  all_goals exact ⟨rfl, (h.setm 5 (.slice (some ⟨o, 0, none⟩) 0 2)).drew⟩

/-! ### What a form may be -/
/-- The form's bytes: none, or a slash and another byte. -/
def Two (len : Nat) (x y : Int) : Prop := len = 0 ∨ (len = 2 ∧ x = 47 ∧ ¬ y = 47)
/-- A form at rest in m: how many of its bytes stand, its counts. -/
structure Fo (B : World) (mb o cb : Nat) (found : ByteArray) (part : Int) (n : Nat) (len : Nat) (held : Int) (w : World) : Prop where
  ex : ∃ over x y : Int, Sw B mb o (mc cb found part (outV o len) over held) (bytes2 x y) w ∧ 0 ≤ over ∧ over ≤ n ∧ Two len x y
  hlo : -1 ≤ held
  hhi : held ≤ 2
  wr : held = -1 → len = 2
  len2 : len = 0 ∨ len = 2

/-- pop: whatever its form. -/
theorem pop_calls (B : World) (mb o cb : Nat) (found : ByteArray) (part : Int) (n len : Nat) (held : Int) (hh : held = 2) (hn : n ≤ 5000) (w : World) (h : Fo B mb o cb found part n len held w) :
    Calls Ybad.prog 28 #[.pointer (some ⟨mb, 5, none⟩)] w fun e w' => e = .returned (.tuple #[]) ∧ ∃ len', Fo B mb o cb found part n len' held w' := by
  obtain ⟨over, x, y, hS, h0, h1, h2⟩ := h.ex
  by_cases ho : over = 0
  · subst ho
    rcases h2 with rfl | ⟨rfl, rfl, hy⟩
    · exact (pop_none B mb o cb found part held x y w hS).mono fun e w' ⟨he, k⟩ => ⟨he, 0, ⟨0, x, y, k, by omega, by omega, .inl rfl⟩, h.hlo, h.hhi, by omega, .inl rfl⟩
    · exact (pop_two B mb o cb found part held y hy w hS).mono fun e w' ⟨he, k⟩ => ⟨he, 0, ⟨0, 47, y, k, by omega, by omega, .inl rfl⟩, h.hlo, h.hhi, by omega, .inl rfl⟩
  · exact (pop_over B mb o cb len found part over held x y (by omega) (by omega) w hS).mono fun e w' ⟨he, k⟩ => ⟨he, len, ⟨over - 1, x, y, k, by omega, by omega, h2⟩, h.hlo, h.hhi, h.wr, h.len2⟩
end Go.Proofs.YbulkdsiDoor
