/-
  A range over a function whose iterator keeps state of its own in cells: the law that the caller uses, over any program. The iterator's own blocks lie from lo on and below hi; the caller's invariant does not mind a turn of them.
-/
import Derived.RangeFuncNested
import Derived.RangeFuncBound
import Derived.RangeFuncCalls
import Derived.RangeFuncLeaves
import Derived.Shelf.Abstract
namespace Go.Proofs.Ybulkdpc
open Go.RowKit

/-- From A to B: new blocks; of the old ones at most those from lo on and below hi have turned. -/
structure Shift (lo hi : Nat) (A B : World) : Prop where
  os : B.os = A.os
  tape : B.tape = A.tape
  output : B.output = A.output
  size : A.heap.size ≤ B.heap.size
  block : ∀ k, k < A.heap.size → (k < lo ∨ hi ≤ k) → B.heap[k]? = A.heap[k]?

theorem Shift.refl (lo hi : Nat) (A : World) : Shift lo hi A A := ⟨rfl, rfl, rfl, Nat.le_refl _, fun _ _ _ => rfl⟩
theorem Shift.trans {lo hi : Nat} {A B C : World} (h : Shift lo hi A B) (k : Shift lo hi B C) : Shift lo hi A C :=
  ⟨k.os.trans h.os, k.tape.trans h.tape, k.output.trans h.output, Nat.le_trans h.size k.size, fun i hi' hr => (k.block i (Nat.lt_of_lt_of_le hi' h.size) hr).trans (h.block i hi' hr)⟩
theorem Shift.mono {lo hi lo' hi' : Nat} {A B : World} (h : Shift lo hi A B) (h1 : lo' ≤ lo) (h2 : hi ≤ hi') : Shift lo' hi' A B :=
  ⟨h.os, h.tape, h.output, h.size, fun k hk hr => h.block k hk (by omega)⟩
theorem Shift.alloc {lo hi : Nat} {A B : World} (h : Shift lo hi A B) (o : Obj) : Shift lo hi A (B.alloc o) :=
  h.trans ⟨rfl, rfl, rfl, by simp, fun k hk _ => Below.heap_alloc _ _ _ hk⟩
theorem Shift.drew {lo hi : Nat} {A B : World} (h : Shift lo hi A B) : Shift lo hi A B.drew := ⟨h.os, h.tape, h.output, h.size, h.block⟩
theorem Shift.setCell {lo hi : Nat} {A B : World} (h : Shift lo hi A B) {p : Addr} (hp : (lo ≤ p.block ∧ p.block < hi) ∨ A.heap.size ≤ p.block) (u : Value) : Shift lo hi A (B.setCell p u) :=
  ⟨h.os, h.tape, h.output, by have := h.size; simpa [World.setCell] using this, fun k hk hr => (Below.heap_setCell _ _ _ _ (by omega)).trans (h.block k hk hr)⟩
theorem Shift.putObj {lo hi : Nat} {A B : World} (h : Shift lo hi A B) {l : Nat} (o : Obj) (hp : lo ≤ l ∧ l < hi) : Shift lo hi A (B.putObj l o) :=
  ⟨h.os, h.tape, h.output, by have := h.size; simpa using this, fun k hk hr => (World.putObj_heap_other (by omega)).trans (h.block k hk hr)⟩
theorem Shift.of_below {lo hi B : Nat} {A C : World} (h : Below B A C) (hB : A.heap.size ≤ B) : Shift lo hi A C :=
  ⟨h.os, h.tape, h.output, h.size, fun k hk _ => h.block k (by omega)⟩
theorem Shift.below {lo hi n₀ : Nat} {w A B : World} (h : Shift lo hi A B) (hb : Below n₀ w A) (h1 : n₀ ≤ lo) (h2 : n₀ ≤ A.heap.size) : Below n₀ w B :=
  ⟨h.os.trans hb.os, h.tape.trans hb.tape, h.output.trans hb.output, Nat.le_trans hb.size h.size, fun k hk => (h.block k (by omega) (by omega)).trans (hb.block k hk)⟩
theorem Shift.same {lo hi : Nat} {A B : World} (h : Shift lo hi A B) {k : Nat} {o : Obj} (hk : A.heap[k]? = some o) (hr : k < lo ∨ hi ≤ k) : B.heap[k]? = some o :=
  (h.block k (Array.getElem?_eq_some_iff.1 hk).1 hr).trans hk

/-- The blocks of T lie as they lay; none has gone. -/
structure Kept (T : Nat → Prop) (A B : World) : Prop where
  size : A.heap.size ≤ B.heap.size
  same : ∀ k, T k → B.heap[k]? = A.heap[k]?

theorem Kept.refl (T : Nat → Prop) (A : World) : Kept T A A := ⟨Nat.le_refl _, fun _ _ => rfl⟩
theorem Kept.trans {T : Nat → Prop} {A B C : World} (h : Kept T A B) (k : Kept T B C) : Kept T A C :=
  ⟨Nat.le_trans h.size k.size, fun i hi => (k.same i hi).trans (h.same i hi)⟩
theorem Kept.putObj {T : Nat → Prop} (A : World) (l : Nat) (o : Obj) (h : ¬ T l) : Kept T A (A.putObj l o) :=
  ⟨by simp, fun k hk => World.putObj_heap_other (fun e => h (e ▸ hk))⟩
theorem Kept.mono {T T' : Nat → Prop} {A B : World} (h : Kept T A B) (hT : ∀ k, T' k → T k) : Kept T' A B := ⟨h.size, fun k hk => h.same k (hT k hk)⟩
theorem Kept.block {T : Nat → Prop} {A B : World} (h : Kept T A B) {k : Nat} {o : Obj} (hk : T k) (ho : A.heap[k]? = some o) : B.heap[k]? = some o := (h.same k hk).trans ho

/-- THE ITERATOR's CONTRACT: N rounds; in round k a value v is handed over of which 'At hi k v W' holds; the rounds keep the blocks of K. -/
def SeqK (F : Fence) (n : Nat) (P : Program) (g : Nat) (lb : Array Value) (N : Nat) (K : Nat → Nat → Nat → Prop) (At : Nat → Nat → Nat → Value → World → Prop) (w : World) : Prop :=
  ∀ (l : Nat) (J Jx : Nat → Nat → World → Prop) (W : World), Below w.heap.size w W →
    (∀ hi k A B, J hi k A → Shift W.heap.size hi A B → J hi k B) →
    (∀ hi k A B, Jx hi k A → Shift W.heap.size hi A B → Jx hi k B) →
    (∀ hi k v W1, W.heap.size ≤ hi → k < N → J hi k W1 → At W.heap.size hi k v W1 → YieldAt F (n - 1) P l #[v] W1 fun e W' =>
      (e = .returned (.bool true) ∧ J hi (k + 1) W' ∧ Kept (K W.heap.size hi) W1 W') ∨ (e = .returned (.bool false) ∧ Jx hi (k + 1) W' ∧ Kept (K W.heap.size hi) W1 W')) →
    (∀ hi, W.heap.size ≤ hi → J hi 0 W) →
    CallsIn F n P g (#[.func (.yield l) #[] #[]] ++ lb) W fun e W' => (∃ v, e = .returned v) ∧ ∃ hi, W.heap.size ≤ hi ∧ (J hi N W' ∨ ∃ k, k ≤ N ∧ Jx hi k W')

/-- HOW THE BODY OF A ROUND MAY BE LEFT: R: the loop's own two blocks; T: what the iterator asks. -/
def shiftPost (R T : Nat → Prop) (I : World → Prop) (Ix : Code → World → Prop) (W : World) : Exit → Act → World → Prop
  | .normal, _, W' => Kept R W W' ∧ Kept T W W' ∧ I W'
  | .ret, _, W' => Kept R W W' ∧ Kept T W W' ∧ Ix .ret W'
  | .exit id, _, W' => Kept R W W' ∧ Kept T W W' ∧ Ix (.exit id) W'
  | .goto t, _, W' => Kept R W W' ∧ Kept T W W' ∧ Ix (.goto t) W'
  | .panic _, _, _ => False
  | .outgrown, _, _ => False

variable {F : Fence} {n : Nat} {P : Program}

theorem wpIn_rangeFunc_shift {g : Operand} {ps : Array Tmp} {assign body : Code} {Q : Exit → Act → World → Prop} {a : Act} {w : World}
    (hro : F.round = none) (h1 : 1 ≤ n) {gf : Nat} {lb : Array Value} (hg : a.eval g = .func (.func gf) #[] lb) (hFg : F.fn gf) (eg : ∀ args w, (callFunc gf args).run P w = .ok (.enter gf args) w)
    {N : Nat} {K : Nat → Nat → Nat → Prop} {At : Nat → Nat → Nat → Value → World → Prop} (hseq : SeqK F (n - 1) P gf lb N K At w) (hps : ps.size = 1)
    (I : Nat → Nat → World → Prop) (Ix : Code → Nat → Nat → World → Prop)
    (hI : ∀ hi k A B, I hi k A → Shift w.heap.size hi A B → I hi k B) (hIx : ∀ c hi k A B, Ix c hi k A → Shift w.heap.size hi A B → Ix c hi k B)
    (hAt : ∀ hi k v A B, w.heap.size + 2 ≤ hi → At (w.heap.size + 2) hi k v A → Shift w.heap.size (w.heap.size + 2) A B → At (w.heap.size + 2) hi k v B)
    (hK : ∀ hi, ¬ K (w.heap.size + 2) hi w.heap.size ∧ ¬ K (w.heap.size + 2) hi (w.heap.size + 1))
    (h0 : ∀ hi, w.heap.size + 2 ≤ hi → I hi 0 w) (a₁ : Value → Act)
    (hassign : ∀ (l : Nat) (v : Value) (W : World) (K' : Act → World → Prop), K' (a₁ v) W →
      assign.wpIn (F.inRound l) (n - 1 - 1) P (Exit.then K' (fun _ _ _ => False)) { tmps := (ps.zip #[v]).foldl (fun t (p, v) => t.setIfInBounds p v) a.tmps, defers := [] } W)
    (hbody : ∀ (hi k : Nat) (v : Value) (W : World), w.heap.size + 2 ≤ hi → k < N → I hi k W → At (w.heap.size + 2) hi k v W →
      body.wpIn (F.inRound (w.heap.size + 1)) (n - 1 - 1) P (shiftPost (fun b => b = w.heap.size ∨ b = w.heap.size + 1) (K (w.heap.size + 2) hi) (I hi (k + 1)) (fun c => Ix c hi (k + 1)) W) (a₁ v) W)
    (hdone : ∀ (hi : Nat) (W : World), w.heap.size + 2 ≤ hi → I hi N W → W.heap[w.heap.size]? = some (.deferred (some [])) → Q .normal { a with defers := { target := .collected w.heap.size, args := #[] } :: a.defers } W)
    (hstop : ∀ (hi : Nat) (c : Code) (k : Nat) (W : World), w.heap.size + 2 ≤ hi → k ≤ N → Ix c hi k W → W.heap[w.heap.size]? = some (.deferred (some [])) → c.wpIn F n P Q { a with defers := { target := .collected w.heap.size, args := #[] } :: a.defers } W) :
    (Code.rangeFunc g ps assign body).wpIn F n P Q a w := by
  refine wpIn_rangeFunc ?_
  intro fn hfn
  rw [hro]
  obtain ⟨rec, hrec⟩ : ∃ rec : LoopState → Option Code → Loop, rec = fun st pe => { state := st, pending := pe, fn, tmps := a.tmps, params := ps, assign, body, defers := w.heap.size } := ⟨_, rfl⟩
  obtain ⟨W1, hW1⟩ : ∃ W1, (w.alloc (.deferred (some []))).alloc (.loop (rec .ready none)) = W1 := ⟨_, rfl⟩
  have hsz : W1.heap.size = w.heap.size + 2 := by rw [← hW1]; simp
  have hL1 : W1.heap[w.heap.size + 1]? = some (.loop (rec .ready none)) := by
    rw [← hW1]; have := World.alloc_heap_new (w.alloc (.deferred (some []))) (.loop (rec .ready none)); rwa [World.size_alloc] at this
  have hK1 : W1.heap[w.heap.size]? = some (.deferred (some [])) := by
    rw [← hW1]; exact (Below.heap_alloc _ _ _ (by simp)).trans (World.alloc_heap_new w _)
  have hI1 : ∀ hi, w.heap.size + 2 ≤ hi → I hi 0 W1 := fun hi hh => by
    rw [← hW1]; exact hI hi 0 w _ (h0 hi hh) (((Shift.refl _ _ w).alloc _).alloc _)
  have hb1 : Below w.heap.size w W1 := by
    rw [← hW1]; exact ((Below.refl _ w).alloc (Nat.le_refl _) _).alloc (by simp) _
  refine ⟨w.heap.size + 1, [{ target := .collected w.heap.size, args := #[] }], W1, { target := .fn (.func gf) lb, args := #[.func (.yield (w.heap.size + 1)) #[] #[]] }, W1, gf,
    #[.func (.yield (w.heap.size + 1)) #[] #[]] ++ lb, W1, ?_, ?_, ?_, ?_, fun _ => h1, ?_⟩
  · rw [← hW1, hrec]; exact run_enterLoop_outer _ _ _ _ _
  · simp only [resolve, hg]
    simp [go_sem]
  · intro f' hf'; simp [Target.leads] at hf'; subst hf'; exact hFg
  · simp [invoke, go_sem, eg]
  · refine (hseq (w.heap.size + 1)
      (fun hi k W => I hi k W ∧ W.heap[w.heap.size + 1]? = some (.loop (rec .ready none)) ∧ W.heap[w.heap.size]? = some (.deferred (some [])))
      (fun hi k W => ∃ c, Ix c hi k W ∧ W.heap[w.heap.size + 1]? = some (.loop (rec .done (some c))) ∧ W.heap[w.heap.size]? = some (.deferred (some [])))
      W1 hb1
      (fun hi k A B hs hg' => ⟨hI hi k A B hs.1 (hg'.mono (by omega) (Nat.le_refl _)), hg'.same hs.2.1 (by omega), hg'.same hs.2.2 (by omega)⟩)
      (fun hi k A B hs hg' => by
        obtain ⟨c, hc, hl, hk⟩ := hs
        exact ⟨c, hIx c hi k A B hc (hg'.mono (by omega) (Nat.le_refl _)), hg'.same hl (by omega), hg'.same hk (by omega)⟩)
      ?_ (fun hi hh => ⟨hI1 hi (by omega), hL1, hK1⟩)).mono ?_
    · -- ONE ROUND
      rintro hi k v W hhi hkN ⟨hi0, hl, hk⟩ hat
      rw [hsz] at hhi hat ⊢
      have hlt : w.heap.size + 1 < W.heap.size := (Array.getElem?_eq_some_iff.1 hl).1
      have hy := run_yield (P := P) (args := #[v]) hl (by rw [hrec]; simp [hps])
      rw [hrec] at hy
      refine ⟨fn, _, assign, body, hy, roundIn_of_wpIn hfn (hassign _ v W _ ⟨_, run_beginRound hl (by rw [hrec]), ?_⟩)⟩
      have hl2 : (W.putObj (w.heap.size + 1) (.loop { rec .ready none with state := .busy })).heap[w.heap.size + 1]? = some (.loop { rec .ready none with state := .busy }) := World.putObj_heap_same hlt
      have hk2 : (W.putObj (w.heap.size + 1) (.loop { rec .ready none with state := .busy })).heap[w.heap.size]? = some (.deferred (some [])) := (World.putObj_heap_other (by omega)).trans hk
      have hKp : Kept (K (w.heap.size + 2) hi) W (W.putObj (w.heap.size + 1) (.loop { rec .ready none with state := .busy })) := Kept.putObj _ _ _ (hK hi).2
      refine wpIn_mono (hbody hi k v _ hhi hkN (hI hi k W _ hi0 ((Shift.refl _ _ W).putObj _ ⟨by omega, by omega⟩)) (hAt hi k v W _ hhi hat ((Shift.refl _ _ W).putObj _ ⟨by omega, by omega⟩))) ?_
      have fin : ∀ (jump : Option Code) (W3 : World), Kept (fun b => b = w.heap.size ∨ b = w.heap.size + 1) (W.putObj (w.heap.size + 1) (.loop { rec .ready none with state := .busy })) W3 →
          (Instr.endRound (w.heap.size + 1) jump).run P W3 = .ok (.bool jump.isNone) (W3.putObj (w.heap.size + 1) (.loop (rec (if jump.isNone then .ready else .done) jump))) ∧
          (W3.putObj (w.heap.size + 1) (.loop (rec (if jump.isNone then .ready else .done) jump))).heap[w.heap.size + 1]? = some (.loop (rec (if jump.isNone then .ready else .done) jump)) ∧
          (W3.putObj (w.heap.size + 1) (.loop (rec (if jump.isNone then .ready else .done) jump))).heap[w.heap.size]? = some (.deferred (some [])) := fun jump W3 hk3 => by
        have hl3 := hk3.block (.inr rfl) hl2
        have := run_endRound (P := P) jump hl3
        rw [hrec] at this ⊢
        exact ⟨this, World.putObj_heap_same (Array.getElem?_eq_some_iff.1 hl3).1, (World.putObj_heap_other (by omega)).trans (hk3.block (.inl rfl) hk2)⟩
      rintro e a3 W3 hp
      cases e with
      | normal =>
        obtain ⟨hk3, hkp3, hi3⟩ := hp
        obtain ⟨hr, hl4, hk4⟩ := fin none W3 hk3
        exact ⟨_, _, hr, .inl ⟨rfl, ⟨hI hi (k + 1) W3 _ hi3 ((Shift.refl _ _ W3).putObj _ ⟨by omega, by omega⟩), hl4, hk4⟩, (hKp.trans hkp3).trans (Kept.putObj _ _ _ (hK hi).2)⟩⟩
      | ret =>
        obtain ⟨hk3, hkp3, hi3⟩ := hp
        obtain ⟨hr, hl4, hk4⟩ := fin (some .ret) W3 hk3
        exact ⟨_, _, hr, .inr ⟨rfl, ⟨.ret, hIx _ hi (k + 1) W3 _ hi3 ((Shift.refl _ _ W3).putObj _ ⟨by omega, by omega⟩), hl4, hk4⟩, (hKp.trans hkp3).trans (Kept.putObj _ _ _ (hK hi).2)⟩⟩
      | exit id =>
        obtain ⟨hk3, hkp3, hi3⟩ := hp
        obtain ⟨hr, hl4, hk4⟩ := fin (some (.exit id)) W3 hk3
        exact ⟨_, _, hr, .inr ⟨rfl, ⟨.exit id, hIx _ hi (k + 1) W3 _ hi3 ((Shift.refl _ _ W3).putObj _ ⟨by omega, by omega⟩), hl4, hk4⟩, (hKp.trans hkp3).trans (Kept.putObj _ _ _ (hK hi).2)⟩⟩
      | goto t =>
        obtain ⟨hk3, hkp3, hi3⟩ := hp
        obtain ⟨hr, hl4, hk4⟩ := fin (some (.goto t)) W3 hk3
        exact ⟨_, _, hr, .inr ⟨rfl, ⟨.goto t, hIx _ hi (k + 1) W3 _ hi3 ((Shift.refl _ _ W3).putObj _ ⟨by omega, by omega⟩), hl4, hk4⟩, (hKp.trans hkp3).trans (Kept.putObj _ _ _ (hK hi).2)⟩⟩
      | panic ch => exact hp.elim
      | outgrown => exact hp.elim
    · -- BEHIND THE ITERATOR
      rintro e W2 ⟨⟨v, rfl⟩, hi, hhi, (⟨hi0, hl, hk⟩ | ⟨k, hkN, c, hi0, hl, hk⟩)⟩
      · rw [hsz] at hhi
        exact ⟨none, _, by have := run_endLoop (P := P) hl (by rw [hrec]; simp); rw [hrec] at this; exact this, hdone hi _ hhi (hI hi N W2 _ hi0 ((Shift.refl _ _ W2).putObj _ ⟨by omega, by omega⟩)) ((World.putObj_heap_other (by omega)).trans hk)⟩
      · rw [hsz] at hhi
        exact ⟨some c, _, by have := run_endLoop (P := P) hl (by rw [hrec]; simp); rw [hrec] at this; exact this, hstop hi c k _ hhi hkN (hIx c hi k W2 _ hi0 ((Shift.refl _ _ W2).putObj _ ⟨by omega, by omega⟩)) ((World.putObj_heap_other (by omega)).trans hk)⟩

end Go.Proofs.Ybulkdpc
