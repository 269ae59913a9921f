/-
  The form's start, the reader's start, pathStart, walked.
-/
import Derived.Test.YbulkdsiDoorSeg
import Derived.KernelRfl
namespace Go.Proofs.YbulkdsiDoor
open Go.RowKit
set_option linter.unusedVariables false

/-- A new block lies at the end. -/
theorem heapNew (w : World) (o : Obj) : (w.alloc o).heap[w.heap.size]? = some o := by
  show (w.heap.push o)[w.heap.size]? = some o
  simp

/-- The block of m alone. -/
structure Mb (B : World) (mb : Nat) (C : Array Value) (w : World) : Prop where
  blk : w.heap[mb]? = some (.cells C 36 (0, 0))
  bel : Below mb B w
section
variable {B : World} {mb : Nat} {C : Array Value} {w : World}
theorem Mb.mlt (h : Mb B mb C w) : mb < w.heap.size := (Array.getElem?_eq_some_iff.1 h.blk).1
theorem Mb.cm (h : Mb B mb C w) (j : Nat) : w.cell? ⟨mb, j, none⟩ = C[j]? := by simp [World.cell?, h.blk]
theorem Mb.fm (h : Mb B mb C w) (j : Nat) : w.frozen? ⟨mb, j, none⟩ = false := by simp [World.frozen?, h.blk]
theorem Mb.setm (h : Mb B mb C w) (j : Nat) (v : Value) : Mb B mb (C.setIfInBounds j v) (w.setCell ⟨mb, j, none⟩ v) :=
  ⟨heap_setCell_same w mb j C 36 v h.blk, h.bel.setCell (p := ⟨mb, j, none⟩) (Nat.le_refl _) v⟩
theorem Mb.drewN (h : Mb B mb C w) (q : Nat) : Mb B mb C (w.drewN q) := ⟨h.blk, Below.drewN h.bel q⟩
theorem Mb.drew (h : Mb B mb C w) : Mb B mb C w.drew := ⟨h.blk, h.bel.drew⟩
theorem Mb.new (h : Mb B mb C w) (D : Array Value) : Sw B mb w.heap.size C D (w.alloc (.cells D 5)) :=
  ⟨(Below.heap_alloc w _ mb h.mlt).trans h.blk, heapNew w _, h.mlt, h.bel.alloc (Nat.le_of_lt h.mlt) _⟩
end
/-- The cells of m before its path. -/
def m0 (cb : Nat) (found : ByteArray) (part : Int) : Array Value := mc cb found part (.slice none 0 0) 0 0

theorem mk2 (w : World) : (Instr.makeSlice 22 (.int .i64 0) (.int .i64 2)).run Ybad.prog w = .ok (.slice (some ⟨w.heap.size, 0, none⟩) 0 2) (w.alloc (.cells #[.int .u8 0, .int .u8 0] 5)) := by kernel_rfl

set_option maxHeartbeats 1000000 in
theorem fstart_calls (B : World) (mb cb : Nat) (found : ByteArray) (part : Int) (w : World) (h : Mb B mb (m0 cb found part) w) :
    Calls Ybad.prog 20 #[.pointer (some ⟨mb, 5, none⟩), .int .i64 2] w fun e w' => e = .returned (.tuple #[]) ∧ ∃ o, Fo B mb o cb found part 0 0 0 w' := by
  have k5 : w.cell? ⟨mb, 5, none⟩ = some (.slice none 0 0) := h.cm 5
  have k6 : w.cell? ⟨mb, 6, none⟩ = some (.int .i64 0) := h.cm 6
  have k7 : w.cell? ⟨mb, 7, none⟩ = some (.int .i8 0) := h.cm 7
  have z5 := h.fm 5
  have z6 := h.fm 6
  have z7 := h.fm 7
  have hm := h.mlt
  have hne : mb ≠ w.heap.size := by omega
  have kmk := mk2 w
  go_enter Ybad.func20, Ybad.ntmps20
  go_wp2_with fail
  go_end0
  have hS := ((((h.setm 5 (.slice (some ⟨w.heap.size, 0, none⟩) 0 2)).setm 5 (.slice (some ⟨w.heap.size, 0, none⟩) 0 2)).setm 6 (.int .i64 0)).setm 7 (.int .i8 0)).new (bytes2 0 0)
  simp only [World.size_setCell] at hS
  exact ⟨rfl, w.heap.size, ⟨0, 0, 0, hS, by omega, by omega, .inl rfl⟩, by omega, by omega, by omega, .inl rfl⟩

theorem Fo.setx {B : World} {mb o cb : Nat} {found : ByteArray} {part : Int} {n len : Nat} {held : Int} {w : World} (h : Fo B mb o cb found part n len held w) :
    Fo B mb o cb found part n len held ((w.setCell ⟨mb, 11, none⟩ (.bool false)).setCell ⟨mb, 12, none⟩ (.int .u8 0)) := by
  obtain ⟨over, x, y, hS, a, b, c⟩ := h.ex
  exact ⟨⟨over, x, y, (hS.setm 11 (.bool false)).setm 12 (.int .u8 0), a, b, c⟩, h.hlo, h.hhi, h.wr, h.len2⟩
theorem Fo.drewN {B : World} {mb o cb : Nat} {found : ByteArray} {part : Int} {n len : Nat} {held : Int} {w : World} (h : Fo B mb o cb found part n len held w) (q : Nat) : Fo B mb o cb found part n len held (w.drewN q) := by
  obtain ⟨over, x, y, hS, a, b, c⟩ := h.ex
  exact ⟨⟨over, x, y, hS.drewN q, a, b, c⟩, h.hlo, h.hhi, h.wr, h.len2⟩
theorem Fo.drew {B : World} {mb o cb : Nat} {found : ByteArray} {part : Int} {n len : Nat} {held : Int} {w : World} (h : Fo B mb o cb found part n len held w) : Fo B mb o cb found part n len held w.drew := by
  obtain ⟨over, x, y, hS, a, b, c⟩ := h.ex
  exact ⟨⟨over, x, y, hS.drew, a, b, c⟩, h.hlo, h.hhi, h.wr, h.len2⟩

set_option maxHeartbeats 1000000 in
theorem rstart_calls (B : World) (mb cb : Nat) (found : ByteArray) (part : Int) (w : World) (h : Mb B mb (m0 cb found part) w) :
    Calls Ybad.prog 13 #[.pointer (some ⟨mb, 5, none⟩), .int .i64 2] w fun e w' => e = .returned (.tuple #[]) ∧ ∃ o, Fo B mb o cb found part 0 0 0 w' := by
  go_enter Ybad.func13, Ybad.ntmps13
  go_wp2_with fail
  refine (fstart_calls B mb cb found part w h).mono ?_
  rintro e w1 ⟨rfl, o, h1⟩
  obtain ⟨k11, k12, k4⟩ := h1.cm
  have z11 := h1.fz 11
  have z12 := h1.fz 12
  go_wp2_with fail
  go_end0
  exact ⟨rfl, o, h1.setx⟩

set_option maxHeartbeats 1000000 in
theorem pstart_calls (B : World) (mb cb : Nat) (found : ByteArray) (part : Int) (w : World) (h : Mb B mb (m0 cb found part) w) (hcb : cb < mb) (hlong : B.cell? ⟨cb, 2, none⟩ = some (.int .i64 1)) :
    Calls Ybad.prog 6 #[.pointer (some ⟨mb, 0, none⟩)] w fun e w' => e = .returned (.tuple #[]) ∧ ∃ o, Fo B mb o cb found 5 0 0 0 w' := by
  have k4 : w.cell? ⟨mb, 4, none⟩ = some (.int .u8 part) := h.cm 4
  have z4 := h.fm 4
  have k0 : w.cell? ⟨mb, 0, none⟩ = some (.pointer (some ⟨cb, 0, none⟩)) := h.cm 0
  have hl : w.cell? ⟨cb, 2, none⟩ = some (.int .i64 1) := (h.bel.cell (p := ⟨cb, 2, none⟩) hcb).trans hlong
  have hne : cb ≠ mb := by omega
  have h5 : Mb B mb (m0 cb found 5) (w.setCell ⟨mb, 4, none⟩ (.int .u8 5)) := h.setm 4 (.int .u8 5)
  go_enter Ybad.func6, Ybad.ntmps6
  go_wp2_with fail
  go_region_with (go_at_call 13; refine (rstart_calls B mb cb found 5 _ (by first | exact h5 | exact h5.drew)).mono ?_; rintro e w1 ⟨rfl, o, h1⟩)
  all_goals go_wp2_with fail
  all_goals go_end0
  all_goals exact ⟨rfl, o, by first | exact h1 | exact h1.drew⟩
end Go.Proofs.YbulkdsiDoor
