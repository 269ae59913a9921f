/-
  pathEnd, emptyPath, walked.
-/
import Derived.Test.YbulkdsiDoorClass
namespace Go.Proofs.YbulkdsiDoor
open Go.RowKit
set_option linter.unusedVariables false

/-- What lies below m: the classes of the law. -/
structure Bs (B : World) (mb cb pb kb : Nat) : Prop where
  hcb : cb < mb
  hpb : pb < mb
  hkb : kb < mb
  c0 : B.cell? ⟨cb, 0, none⟩ = some (.slice (some ⟨pb, 0, none⟩) 1 1)
  c1 : B.cell? ⟨cb, 1, none⟩ = some (.slice (some ⟨kb, 0, none⟩) 1 1)
  c2 : B.cell? ⟨cb, 2, none⟩ = some (.int .i64 1)
  p : B.cell? ⟨pb, 0, none⟩ = some (.string ⟨#[47]⟩)
  k : B.cell? ⟨kb, 0, none⟩ = some (.string allS)

theorem Sw.below {B : World} {mb o : Nat} {C D : Array Value} {w w1 : World} (h : Sw B mb o C D w) (hb : Below w.heap.size w w1) : Sw B mb o C D w1 :=
  ⟨(hb.block mb h.mlt).trans h.blk, (hb.block o h.olt).trans h.obk, h.lt, h.bel.trans (hb.mono (Nat.le_of_lt h.mlt))⟩
theorem Sw.mb {B : World} {mb o : Nat} {C D : Array Value} {w : World} (h : Sw B mb o C D w) : Mb B mb C w := ⟨h.blk, h.bel⟩

/-- m past its path. -/
def Pa (B : World) (mb : Nat) (f : ByteArray) (w : World) : Prop :=
  ∃ C : Array Value, Mb B mb C w ∧ C[2]? = some (.string ⟨#[]⟩) ∧ C[3]? = some (.string f) ∧ C[4]? = some (.int .u8 6)

theorem Fo.setp {B : World} {mb o cb : Nat} {found : ByteArray} {part : Int} {n len : Nat} {held : Int} {w : World} (h : Fo B mb o cb found part n len held w) (p : Int) :
    Fo B mb o cb found p n len held (w.setCell ⟨mb, 4, none⟩ (.int .u8 p)) := by
  obtain ⟨over, x, y, hS, a, b, c⟩ := h.ex
  exact ⟨⟨over, x, y, hS.setm 4 (.int .u8 p), a, b, c⟩, h.hlo, h.hhi, h.wr, h.len2⟩

/-- classOf, asked by m. -/
theorem class_sw {B : World} {mb cb pb kb : Nat} (hB : Bs B mb cb pb kb) (o : Nat) (C : Array Value) (len : Nat) (y : Int) (hlen : len = 1 ∨ (len = 2 ∧ ¬ y = 47)) (w : World) (h : Sw B mb o C (bytes2 47 y) w) :
    Calls Ybad.prog 19 #[.pointer (some ⟨cb, 0, none⟩), .slice (some ⟨o, 0, none⟩) len 2] w fun e w' => e = .returned (.string allS) ∧ Sw B mb o C (bytes2 47 y) w' := by
  have hm := h.mlt
  have h1 := hB.hcb
  have h2 := hB.hpb
  have h3 := hB.hkb
  refine (class_calls cb pb kb o len y hlen w ((h.bel.cell (p := ⟨cb, 0, none⟩) hB.hcb).trans hB.c0) ((h.bel.cell (p := ⟨cb, 1, none⟩) hB.hcb).trans hB.c1)
    ((h.bel.cell (p := ⟨pb, 0, none⟩) hB.hpb).trans hB.p) ((h.bel.cell (p := ⟨kb, 0, none⟩) hB.hkb).trans hB.k) (h.co 0) (h.co 1) (by omega) (by omega) (by omega) h.olt).mono ?_
  rintro e w1 ⟨rfl, hb⟩
  exact ⟨rfl, h.below hb⟩

set_option maxHeartbeats 4000000 in
theorem pend_calls {B : World} {mb cb pb kb : Nat} (hB : Bs B mb cb pb kb) (o : Nat) (found : ByteArray) (part : Int) (n len : Nat) (held : Int) (hn : n ≤ 5000) (w : World) (h : Fo B mb o cb found part n len held w) :
    Calls Ybad.prog 11 #[.pointer (some ⟨mb, 0, none⟩)] w fun e w' => e = .returned .nilIface ∧ Pa B mb allS w' := by
  obtain ⟨k11, k12, k4⟩ := h.cm
  have z4 := h.fz 4
  go_enter Ybad.func11, Ybad.ntmps11
  go_wp2_with fail
  refine (rend_calls B mb o cb found 6 n len held hn _ (h.setp 6)).mono ?_
  rintro e w1 ⟨rfl, len', over, y, hS, hlen⟩
  have c0 : w1.cell? ⟨mb, 0, none⟩ = some (.pointer (some ⟨cb, 0, none⟩)) := hS.cm 0
  have c5 : w1.cell? ⟨mb, 5, none⟩ = some (.slice (some ⟨o, 0, none⟩) len' 2) := hS.cm 5
  have c3 : w1.cell? ⟨mb, 3, none⟩ = some (.string found) := hS.cm 3
  clear k11 k12 k4 z4 h
  go_wp2_with fail
  go_region_with (go_at_call 19; refine (class_sw hB o _ len' y hlen _ (by first | exact hS | exact hS.drew)).mono ?_; rintro e w2 ⟨rfl, h2⟩; have d3 : w2.cell? ⟨mb, 3, none⟩ = some (.string found) := h2.cm 3; have z3 := h2.fm 3)
  all_goals
    have h3 := h2.setm 3 (.string allS)
    clear h2 d3 z3
    generalize w2.setCell ⟨mb, 3, none⟩ (.string allS) = w3 at h3 ⊢
    go_wp2_with fail
    go_quiet (fail)
    go_wp2_with fail
    go_ret
    exact ⟨rfl, _, (h3.drewN nq).mb, rfl, rfl, rfl⟩

set_option maxHeartbeats 1000000 in
/-- The start of a path and its first slash, then what follows. -/
theorem empty_calls {B : World} {mb cb pb kb : Nat} (hB : Bs B mb cb pb kb) (found : ByteArray) (part : Int) (w : World) (h : Mb B mb (m0 cb found part) w) :
    Calls Ybad.prog 10 #[.pointer (some ⟨mb, 0, none⟩)] w fun e w' => e = .returned .nilIface ∧ Pa B mb allS w' := by
  go_enter Ybad.func10, Ybad.ntmps10
  go_wp2_with fail
  refine (pstart_calls B mb cb found part w h hB.hcb hB.c2).mono ?_
  rintro e w1 ⟨rfl, o, h1⟩
  go_wp2_with fail
  refine (byte_calls B mb o cb found 5 0 0 0 47 (by omega) (by decide) w1 h1).mono ?_
  rintro e w2 ⟨rfl, len, held, h2⟩
  go_wp2_with fail
  refine (pend_calls hB o found 5 1 len held (by omega) w2 h2).mono ?_
  rintro e w3 ⟨rfl, h3⟩
  go_wp2_with fail
  go_ret
  exact ⟨rfl, h3⟩
end Go.Proofs.YbulkdsiDoor
