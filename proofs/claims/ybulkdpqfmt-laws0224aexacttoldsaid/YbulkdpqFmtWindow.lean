/-
  parseWindow, walked.
-/
import Derived.Test.YbulkdpqFmtClock
import Derived.Deep.RegionWith
namespace Go.Proofs.YbulkdpqFmt
open Go.RowKit Go.Extern.Stop Go.Stop Go.Extern
set_option linter.unusedVariables false

/-- A refusal: the zero Window and an error. -/
def Refused (e : Ending) : Prop := ∃ g, e = .returned (.tuple #[.agg #[.int .i64 0, .int .i64 0], .iface 45 (.pointer (some ⟨g, 0, none⟩))])
def Opened (e : Ending) (v1 v2 : Int) : Prop := e = .returned (.tuple #[.agg #[.int .i64 v1, .int .i64 v2], .nilIface])

def tail7 : ByteArray := ⟨#[58, 48, 48, 46, 48, 48, 48]⟩

/-- Two numbers in a block of a Window. -/
def Pair (X : World) (r : Nat) (a b : Int) : Prop := X.heap[r]? = some (.cells #[.int .i64 a, .int .i64 b] 25 (0, 0))
theorem Pair.c0 {X : World} {r : Nat} {a b : Int} (h : Pair X r a b) : X.cell? ⟨r, 0, none⟩ = some (.int .i64 a) := by simp [World.cell?, show X.heap[r]? = _ from h]
theorem Pair.c1 {X : World} {r : Nat} {a b : Int} (h : Pair X r a b) : X.cell? ⟨r, 1, none⟩ = some (.int .i64 b) := by simp [World.cell?, show X.heap[r]? = _ from h]
theorem Pair.f {X : World} {r : Nat} {a b : Int} (h : Pair X r a b) (j : Nat) : X.frozen? ⟨r, j, none⟩ = false := by simp [World.frozen?, show X.heap[r]? = _ from h]
theorem Pair.lt {X : World} {r : Nat} {a b : Int} (h : Pair X r a b) : r < X.heap.size := (Array.getElem?_eq_some_iff.1 h).1
theorem Pair.new (w : World) (a b : Int) : Pair (w.alloc (.cells #[.int .i64 a, .int .i64 b] 25)) w.heap.size a b := World.alloc_heap_new w _
theorem Pair.alloc {X : World} {r : Nat} {a b : Int} (h : Pair X r a b) (o : Obj) : Pair (X.alloc o) r a b := (Below.heap_alloc X o r h.lt).trans h
theorem Pair.below {X Y : World} {r : Nat} {a b : Int} {n : Nat} (h : Pair X r a b) (hb : Below n X Y) (hr : r < n) : Pair Y r a b := (hb.block r hr).trans h
theorem Pair.set {X : World} {r : Nat} {a b : Int} (h : Pair X r a b) (a' b' : Int) : Pair ((X.setCell ⟨r, 0, none⟩ (.int .i64 a')).setCell ⟨r, 1, none⟩ (.int .i64 b')) r a' b' := by
  have hlt := h.lt
  have h' : X.heap[r]? = some (.cells #[.int .i64 a, .int .i64 b] 25 (0, 0)) := h
  have h2 : X.heap[r] = .cells #[.int .i64 a, .int .i64 b] 25 (0, 0) := by have := Array.getElem?_eq_getElem hlt; rw [h'] at this; exact (Option.some.inj this).symm
  simp [Pair, World.setCell, hlt, Array.getElem_modify, h2]

set_option maxHeartbeats 400000 in
theorem window_size (F : Interp) (s : ByteArray) (hsz : ¬ s.size = 11) (w : World) (hF : F.answers w.tape) :
    Calls Ybaf.prog 6 #[.string s] w fun e w' => Refused e ∧ Below w.heap.size w w' := by
  have hsz' : ((s.size : Int) != 11) = true := by simp; omega
  go_enter Ybaf.func6, Ybaf.ntmps6
  go_wp2_with fail
  refine (errorfA F s (w.heap.size + 1) ((w.alloc (.cells #[.int .i64 0, .int .i64 0] 25)).alloc (.cells #[.iface 9 (.string s)] 20)) hF (by have h := Boxed.new (w.alloc (.cells #[.int .i64 0, .int .i64 0] 25)) 20 (.iface 9 (.string s)); rw [World.size_alloc] at h; exact h.cell)).mono ?_
  rintro e w1 ⟨⟨g, rfl⟩, hB1⟩
  have hp : Pair w1 w.heap.size 0 0 := ((Pair.new w 0 0).alloc _).below hB1 (by simp; omega)
  have hw1 : Below w.heap.size w w1 := (((Below.refl _ w).alloc (Nat.le_refl _) _).alloc (by simp) _).trans (hB1.mono (by simp; omega))
  have k0 := hp.c0
  have k1 := hp.c1
  have f0 := hp.f 0
  have f1 := hp.f 1
  clear hB1
  go_wp2_with fail
  exact bodyPost_ret (v := .tuple #[.agg #[.int .i64 0, .int .i64 0], .iface 45 (.pointer (some ⟨g, 0, none⟩))]) (by simp [results, Ybaf.results6, go_sem, k0, k1]) rfl ⟨⟨g, rfl⟩, (hw1.setCell (p := ⟨w.heap.size, 0, none⟩) (Nat.le_refl _) _).setCell (p := ⟨w.heap.size, 1, none⟩) (Nat.le_refl _) _⟩

set_option maxHeartbeats 400000 in
theorem window_dash (F : Interp) (s : ByteArray) (hsz : s.size = 11) (h5 : ¬ s[5].toNat = 45) (w : World) (hF : F.answers w.tape) :
    Calls Ybaf.prog 6 #[.string s] w fun e w' => Refused e ∧ Below w.heap.size w w' := by
  have hsz' : ((s.size : Int) != 11) = false := by rw [hsz]; rfl
  have h5' : ((s[5].toNat : Int) != 45) = true := by simp; omega
  go_enter Ybaf.func6, Ybaf.ntmps6
  go_wp2_with fail
  refine (errorfA F s (w.heap.size + 1) ((w.alloc (.cells #[.int .i64 0, .int .i64 0] 25)).alloc (.cells #[.iface 9 (.string s)] 20)) hF (by have h := Boxed.new (w.alloc (.cells #[.int .i64 0, .int .i64 0] 25)) 20 (.iface 9 (.string s)); rw [World.size_alloc] at h; exact h.cell)).mono ?_
  rintro e w1 ⟨⟨g, rfl⟩, hB1⟩
  have hp : Pair w1 w.heap.size 0 0 := ((Pair.new w 0 0).alloc _).below hB1 (by simp; omega)
  have hw1 : Below w.heap.size w w1 := (((Below.refl _ w).alloc (Nat.le_refl _) _).alloc (by simp) _).trans (hB1.mono (by simp; omega))
  have k0 := hp.c0
  have k1 := hp.c1
  have f0 := hp.f 0
  have f1 := hp.f 1
  clear hB1
  go_wp2_with fail
  exact bodyPost_ret (v := .tuple #[.agg #[.int .i64 0, .int .i64 0], .iface 45 (.pointer (some ⟨g, 0, none⟩))]) (by simp [results, Ybaf.results6, go_sem, k0, k1]) rfl ⟨⟨g, rfl⟩, (hw1.setCell (p := ⟨w.heap.size, 0, none⟩) (Nat.le_refl _) _).setCell (p := ⟨w.heap.size, 1, none⟩) (Nat.le_refl _) _⟩

/-- What parseWindow gives where both halves have been read. -/
def WPost (b1 b2 : Bool) (v1 v2 : Int) (e : Ending) : Prop :=
  ((b1 = true ∧ b2 = true ∧ ¬ v2 = v1) ∧ Opened e v1 (if v2 < v1 then v2 + 86400000000000 else v2)) ∨ (¬ (b1 = true ∧ b2 = true ∧ ¬ v2 = v1) ∧ Refused e)

set_option maxHeartbeats 1000000 in
set_option maxRecDepth 100000 in
theorem window_parts (F : Interp) (s : ByteArray) (hsz : s.size = 11) (h5 : s[5].toNat = 45) (T1 T2 : ByteArray) (hT1 : s.extract 0 5 ++ tail7 = T1) (hT2 : s.extract 6 11 ++ tail7 = T2)
    (v1 v2 : Int) (b1 b2 : Bool) (hS1 : Says T1 v1 b1) (hS2 : Says T2 v2 b2) (w : World) (hF : F.answers w.tape) :
    Calls Ybaf.prog 6 #[.string s] w fun e w' => WPost b1 b2 v1 v2 e ∧ Below w.heap.size w w' := by
  have hsz' : ((s.size : Int) != 11) = false := by rw [hsz]; rfl
  have h5' : ((s[5].toNat : Int) != 45) = false := by rw [h5]; rfl
  clear h5
  go_enter Ybaf.func6, Ybaf.ntmps6
  go_wp2_with fail
  refine (errorfA F s (w.heap.size + 1) ((w.alloc (.cells #[.int .i64 0, .int .i64 0] 25)).alloc (.cells #[.iface 9 (.string s)] 20)) hF (by have h := Boxed.new (w.alloc (.cells #[.int .i64 0, .int .i64 0] 25)) 20 (.iface 9 (.string s)); rw [World.size_alloc] at h; exact h.cell)).mono ?_
  rintro e w1 ⟨⟨g, rfl⟩, hB1⟩
  have hp : Pair w1 w.heap.size 0 0 := ((Pair.new w 0 0).alloc _).below hB1 (by simp; omega)
  have hw1 : Below w.heap.size w w1 := (((Below.refl _ w).alloc (Nat.le_refl _) _).alloc (by simp) _).trans (hB1.mono (by simp; omega))
  have hlt1 := hp.lt
  clear hB1
  have hm := Boxed.new w1 36 (.int .i64 0)
  have hmc := hm.cell
  have hw2 : Below w.heap.size w (w1.alloc (.cells #[.int .i64 0] 36)) := hw1.alloc hw1.size _
  have hp2 := hp.alloc (.cells #[.int .i64 0] 36)
  have htl : tail7 = ⟨#[58, 48, 48, 46, 48, 48, 48]⟩ := rfl
  rw [htl] at hT1 hT2
  go_wp2_with fail
  go_region_with (go_at_call 8; refine (moment_calls T1 v1 b1 hS1 _).mono ?_; rintro e w3 ⟨rfl, hB3⟩)
  have hw3 : Below w.heap.size w w3 := (hw2.drew).trans (hB3.mono (by have := hw1.size; simp; omega))
  have hp3 : Pair w3 w.heap.size 0 0 := (show Pair ((w1.alloc (.cells #[.int .i64 0] 36)).drew) w.heap.size 0 0 from hp2).below hB3 (by have := hw1.size; simp; omega)
  have hm3 : Boxed w3 w1.heap.size 36 (.int .i64 0) := (hB3.block w1.heap.size (by simp)).trans hm
  have hmc3 := hm3.cell
  have hlt3 := hm3.lt
  clear hB3 hmc hm hw2 hp2 hp hw1
  go_wp2_with fail
  go_region_with (go_at_call 8; refine (moment_calls T2 v2 b2 hS2 _).mono ?_; rintro e w5 ⟨rfl, hB5⟩)
  have hw5 : Below w.heap.size w w5 := (hw3.drew).trans (hB5.mono (by have := hw3.size; simp; omega))
  have hp5 : Pair w5 w.heap.size 0 0 := (show Pair w3.drew w.heap.size 0 0 from hp3).below hB5 (by have := hp3.lt; simp; omega)
  clear hB5 hmc3 hm3 hlt3 hp3 hw3 hT1 hT2
  have k0 := hp5.c0
  have k1 := hp5.c1
  have f0 := hp5.f 0
  have f1 := hp5.f 1
  have hlt5 := hp5.lt
  have g1 := hS1.lo
  have g2 := hS1.hi
  have g3 := hS2.lo
  have g4 := hS2.hi
  cases b1 with
  | false =>
    go_wp2_with fail
    exact bodyPost_ret (v := .tuple #[.agg #[.int .i64 0, .int .i64 0], .iface 45 (.pointer (some ⟨g, 0, none⟩))]) (by simp [results, Ybaf.results6, go_sem, k0, k1]) rfl ⟨.inr ⟨by simp, ⟨g, rfl⟩⟩, (hw5.setCell (p := ⟨w.heap.size, 0, none⟩) (Nat.le_refl _) _).setCell (p := ⟨w.heap.size, 1, none⟩) (Nat.le_refl _) _⟩
  | true =>
    cases b2 with
    | false =>
      go_wp2_with fail
      exact bodyPost_ret (v := .tuple #[.agg #[.int .i64 0, .int .i64 0], .iface 45 (.pointer (some ⟨g, 0, none⟩))]) (by simp [results, Ybaf.results6, go_sem, k0, k1]) rfl ⟨.inr ⟨by simp, ⟨g, rfl⟩⟩, (hw5.setCell (p := ⟨w.heap.size, 0, none⟩) (Nat.le_refl _) _).setCell (p := ⟨w.heap.size, 1, none⟩) (Nat.le_refl _) _⟩
    | true =>
      by_cases heq : v2 = v1
      · subst heq
        go_wp2_with fail
        refine (errorfB F s (w5.heap.size + 1) ((w5.alloc (.cells #[.int .i64 v2, .int .i64 v2] 25)).alloc (.cells #[.iface 9 (.string s)] 20)) (by show F.answers w5.tape; rw [hw5.tape]; exact hF) (by have h := Boxed.new (w5.alloc (.cells #[.int .i64 v2, .int .i64 v2] 25)) 20 (.iface 9 (.string s)); rw [World.size_alloc] at h; exact h.cell)).mono ?_
        rintro e w6 ⟨⟨g6, rfl⟩, hB6⟩
        have hp6 : Pair w6 w.heap.size 0 0 := ((hp5.alloc _).alloc _).below hB6 (by simp; omega)
        have hw6 : Below w.heap.size w w6 := ((hw5.alloc hw5.size _).alloc (by have := hw5.size; simp; omega) _).trans (hB6.mono (by simp; omega))
        have l0 := hp6.c0
        have l1 := hp6.c1
        have q0 := hp6.f 0
        have q1 := hp6.f 1
        clear hB6
        go_wp2_with fail
        exact bodyPost_ret (v := .tuple #[.agg #[.int .i64 0, .int .i64 0], .iface 45 (.pointer (some ⟨g6, 0, none⟩))]) (by simp [results, Ybaf.results6, go_sem, l0, l1]) rfl ⟨.inr ⟨by simp, ⟨g6, rfl⟩⟩, (hw6.setCell (p := ⟨w.heap.size, 0, none⟩) (Nat.le_refl _) _).setCell (p := ⟨w.heap.size, 1, none⟩) (Nat.le_refl _) _⟩
      · have heq' : (v2 == v1) = false := by simp [heq]
        have hne : w5.heap.size ≠ w.heap.size := by omega
        by_cases hlt : v2 < v1
        · go_wp2_with fail
          have m0 := ((hp5.set v1 (v2 + 86400000000000)).alloc (.cells #[.int .i64 v1, .int .i64 (v2 + 86400000000000)] 25)).c0
          have m1 := ((hp5.set v1 (v2 + 86400000000000)).alloc (.cells #[.int .i64 v1, .int .i64 (v2 + 86400000000000)] 25)).c1
          exact bodyPost_ret (v := .tuple #[.agg #[.int .i64 v1, .int .i64 (v2 + 86400000000000)], .nilIface]) (by simp [results, Ybaf.results6, go_sem, m0, m1]) rfl ⟨.inl ⟨⟨rfl, rfl, heq⟩, by rw [if_pos hlt]; rfl⟩, ((hw5.setCell (p := ⟨w.heap.size, 0, none⟩) (Nat.le_refl _) _).setCell (p := ⟨w.heap.size, 1, none⟩) (Nat.le_refl _) _).alloc (by have := hw5.size; simp; omega) _⟩
        · go_wp2_with fail
          have m0 := ((hp5.set v1 v2).alloc (.cells #[.int .i64 v1, .int .i64 v2] 25)).c0
          have m1 := ((hp5.set v1 v2).alloc (.cells #[.int .i64 v1, .int .i64 v2] 25)).c1
          exact bodyPost_ret (v := .tuple #[.agg #[.int .i64 v1, .int .i64 v2], .nilIface]) (by simp [results, Ybaf.results6, go_sem, m0, m1]) rfl ⟨.inl ⟨⟨rfl, rfl, heq⟩, by rw [if_neg (by omega)]; rfl⟩, ((hw5.setCell (p := ⟨w.heap.size, 0, none⟩) (Nat.le_refl _) _).setCell (p := ⟨w.heap.size, 1, none⟩) (Nat.le_refl _) _).alloc (by have := hw5.size; simp; omega) _⟩
end Go.Proofs.YbulkdpqFmt
