/-
  classOf at the prefix "/", walked.
-/
import Derived.Test.YbulkdsiDoorSearch
namespace Go.Proofs.YbulkdsiDoor
open Go.RowKit
set_option linter.unusedVariables false

def cellNat (p : Value) (w : World) : Nat := match p with
  | .pointer (some a) => (intOf ((w.cell? a).getD (.int .i64 0))).toNat
  | _ => 0

/-- Within classOf: the world of the call, grown; the cell of d. -/
structure Cl (w : World) (db : Nat) (d : Int) (X : World) : Prop where
  bel : Below w.heap.size w X
  lo : w.heap.size ≤ db
  hi : db < X.heap.size
  cell : X.cell? ⟨db, 0, none⟩ = some (.int .i64 d)
  fz : X.frozen? ⟨db, 0, none⟩ = false
theorem Cl.drewN {w : World} {db : Nat} {d : Int} {X : World} (h : Cl w db d X) (q : Nat) : Cl w db d (X.drewN q) := ⟨Below.drewN h.bel q, h.lo, h.hi, h.cell, h.fz⟩
theorem Cl.meas {w : World} {db : Nat} {d : Int} {X : World} (h : Cl w db d X) : cellNat (.pointer (some ⟨db, 0, none⟩)) X = d.toNat := by simp [cellNat, h.cell, intOf]
theorem Cl.next {w X : World} (h : Below w.heap.size w X) (d : Int) : Cl w X.heap.size d (X.alloc (.cells #[.int .i64 d] 3)) :=
  have e := heapNew X (.cells #[.int .i64 d] 3)
  ⟨h.alloc h.size _, h.size, by simp, by simp only [World.cell?, e]; rfl, by simp only [World.frozen?, e]; rfl⟩

set_option maxRecDepth 4000 in
set_option maxHeartbeats 4000000 in
theorem class_calls (cb pb kb o len : Nat) (y : Int) (hlen : len = 1 ∨ (len = 2 ∧ ¬ y = 47)) (w : World)
    (hc0 : w.cell? ⟨cb, 0, none⟩ = some (.slice (some ⟨pb, 0, none⟩) 1 1)) (hc1 : w.cell? ⟨cb, 1, none⟩ = some (.slice (some ⟨kb, 0, none⟩) 1 1))
    (hp : w.cell? ⟨pb, 0, none⟩ = some (.string ⟨#[47]⟩)) (hk : w.cell? ⟨kb, 0, none⟩ = some (.string allS))
    (ho0 : w.cell? ⟨o, 0, none⟩ = some (.int .u8 47)) (ho1 : w.cell? ⟨o, 1, none⟩ = some (.int .u8 y))
    (lcb : cb < w.heap.size) (lpb : pb < w.heap.size) (lkb : kb < w.heap.size) (lo : o < w.heap.size) :
    Calls Ybad.prog 19 #[.pointer (some ⟨cb, 0, none⟩), .slice (some ⟨o, 0, none⟩) len 2] w fun e w' => e = .returned (.string allS) ∧ Below w.heap.size w w' := by
  have facts : ∀ db d X, Cl w db d X → X.cell? ⟨cb, 0, none⟩ = some (.slice (some ⟨pb, 0, none⟩) 1 1) ∧ X.cell? ⟨cb, 1, none⟩ = some (.slice (some ⟨kb, 0, none⟩) 1 1) ∧ X.cell? ⟨pb, 0, none⟩ = some (.string ⟨#[47]⟩) ∧ X.cell? ⟨kb, 0, none⟩ = some (.string allS) ∧ X.cell? ⟨o, 0, none⟩ = some (.int .u8 47) ∧ X.cell? ⟨o, 1, none⟩ = some (.int .u8 y) :=
    fun db d X h => ⟨(h.bel.cell (p := ⟨cb, 0, none⟩) lcb).trans hc0, (h.bel.cell (p := ⟨cb, 1, none⟩) lcb).trans hc1, (h.bel.cell (p := ⟨pb, 0, none⟩) lpb).trans hp, (h.bel.cell (p := ⟨kb, 0, none⟩) lkb).trans hk, (h.bel.cell (p := ⟨o, 0, none⟩) lo).trans ho0, (h.bel.cell (p := ⟨o, 1, none⟩) lo).trans ho1⟩
  have hl1 : ((0 : Int) == (len : Int)) = false := by rcases hlen with rfl | ⟨rfl, _⟩ <;> decide
  have hl2 : (0 : Int) < (len : Int) := by rcases hlen with rfl | ⟨rfl, _⟩ <;> decide
  have q47 : ∀ db X, Cl w db 0 X → Calls Ybad.prog 27 #[.slice (some ⟨pb, 0, none⟩) 1 1, .int .i64 47, .func (.func 26) #[] #[.pointer (some ⟨db, 0, none⟩)]] X fun e w' => e = .returned (.tuple #[.int .i64 0, .bool true]) ∧ w' = X := fun db X h => search_one pb db 47 (.inl rfl) X h.cell (facts _ _ _ h).2.2.1
  have q48 : ∀ db X, Cl w db 0 X → Calls Ybad.prog 27 #[.slice (some ⟨pb, 0, none⟩) 1 1, .int .i64 48, .func (.func 26) #[] #[.pointer (some ⟨db, 0, none⟩)]] X fun e w' => e = .returned (.tuple #[.int .i64 1, .bool false]) ∧ w' = X := fun db X h => search_one pb db 48 (.inr rfl) X h.cell (facts _ _ _ h).2.2.1
  go_enter Ybad.func19, Ybad.ntmps19
  go_wp2_with fail
  go_quiet (fail)
  have hB0 : Below w.heap.size w (w.drewN nq) := Below.drewN (Below.refl _ _) nq
  generalize w.drewN nq = X at hB0 ⊢
  go_wp2_with fail
  go_loopw [5, 6, 7, 8] (fun lo hi best p wr => ∃ db d, p = .pointer (some ⟨db, 0, none⟩) ∧ Cl w db d wr ∧
      ((lo = .int .i64 0 ∧ hi = .int .i64 1 ∧ best = .int .i64 (-1) ∧ (d = 0 ∨ d = 1)) ∨
       (len = 2 ∧ lo = .int .i64 1 ∧ hi = .int .i64 1 ∧ best = .int .i64 0 ∧ d = 2))) (fun _ _ _ p wr => 3 - cellNat p wr)
  case atStart => exact ⟨_, 0, rfl, Cl.next hB0 0, .inl ⟨rfl, rfl, rfl, .inl rfl⟩⟩
  case round =>
    obtain ⟨db, d, rfl, hC, hcase⟩ := hrel
    have hmeas := hC.meas
    obtain ⟨rc0, rc1, rp, rk, r0, r1⟩ := facts _ _ _ hC
    have hd := hC.cell
    rcases hcase with ⟨rfl, rfl, rfl, rfl | rfl⟩ | ⟨rfl, rfl, rfl, rfl, rfl⟩
    · go_wp2_with fail
      go_quiet (fail)
      have hC1 := hC.drewN nq
      generalize wr.drewN nq = X1 at hC1 ⊢
      obtain ⟨rc0, rc1, rp, rk, r0, r1⟩ := facts _ _ _ hC1
      have hd1 := hC1.cell
      go_wp2_with fail
      go_quiet (first | (go_at_call 27; exact Calls.quiet_of_same (q47 db _ (hC1.drewN _))))
      have hC2 := hC1.drewN nq
      generalize X1.drewN nq = X2 at hC2 ⊢
      obtain ⟨rc0, rc1, rp, rk, r0, r1⟩ := facts _ _ _ hC2
      have hd2 := hC2.cell
      go_wp2_with fail
      go_quiet (first | (go_at_call 27; exact Calls.quiet_of_same (q48 db _ (hC2.drewN _))))
      have hC3 := hC2.drewN nq
      generalize X2.drewN nq = X3 at hC3 ⊢
      have hd3 := hC3.cell
      go_wp2_with fail
      exact ⟨⟨_, 1, rfl, Cl.next hC3.bel 1, .inl ⟨rfl, rfl, rfl, .inr rfl⟩⟩, by rw [hmeas, (Cl.next hC3.bel 1).meas]; decide⟩
    · rcases hlen with rfl | ⟨rfl, hy⟩
      · go_wp2_with fail
        go_quiet (fail)
        have hC1 := hC.drewN nq
        generalize wr.drewN nq = X1 at hC1 ⊢
        obtain ⟨rc0, rc1, rp, rk, r0, r1⟩ := facts _ _ _ hC1
        have hd1 := hC1.cell
        go_wp2_with fail
        go_ret
        exact ⟨rfl, hC1.bel⟩
      · go_wp2_with fail
        go_quiet (fail)
        have hC1 := hC.drewN nq
        generalize wr.drewN nq = X1 at hC1 ⊢
        obtain ⟨rc0, rc1, rp, rk, r0, r1⟩ := facts _ _ _ hC1
        have hd1 := hC1.cell
        have hyb : (y == 47) = false := by simp [hy]
        go_wp2_with fail
        go_quiet (first | (go_at_call 27; exact Calls.quiet_of_same (search_none _ db _ _)))
        have hC2 := hC1.drewN nq
        generalize X1.drewN nq = X2 at hC2 ⊢
        obtain ⟨rc0, rc1, rp, rk, r0, r1⟩ := facts _ _ _ hC2
        have hd2 := hC2.cell
        go_wp2_with fail
        go_quiet (first | (go_at_call 27; exact Calls.quiet_of_same (search_none _ db _ _)))
        have hC3 := hC2.drewN nq
        generalize X2.drewN nq = X3 at hC3 ⊢
        have hd3 := hC3.cell
        go_wp2_with fail
        exact ⟨⟨_, 2, rfl, Cl.next hC3.bel 2, .inr ⟨trivial, rfl, rfl, rfl, rfl⟩⟩, by rw [hmeas, (Cl.next hC3.bel 2).meas]; decide⟩
    · go_wp2_with fail
      go_ret
      exact ⟨rfl, hC.bel⟩
end Go.Proofs.YbulkdsiDoor
