/-
  A region that draws its order and only reads, IN A ROUND of a range over a function: one walk of the lexical order serves every order. (The kit has it outside a round.)
-/
import Derived.Sort.QuietIn
import Derived.OwnWalkIn
namespace Go.Proofs.Ybulkdpc
variable {F : Fence} {n : Nat} {P : Program} {C : World → Prop}

def notDefer (o : Oper) : Bool := match o.op with
  | .defer _ => false
  | _ => true
theorem notDefer_spec {o : Oper} (h : notDefer o = true) : ∀ c, o.op ≠ .defer c := fun c e => by simp [notDefer, e] at h

theorem oper_round {o : Oper} {a : Act} {K : Act → Prop} {K' : Act → World → Prop} {Q' : Exit → Act → World → Prop} {w : World} (hd : notDefer o = true) (hw : C w) (h : ∀ a w', C w' → K a → K' a w')
    (ha : o.askedIn F P a C) (hh : o.quietIn F n P a C K) : o.wpIn F n P a w K' Q' := by
  obtain ⟨v, h1, h2⟩ := hh
  have h3 : Oper.quietUponIn F n P C w v ((execOp a.eval o).run P w) := h1 w hw
  refine ⟨ha w hw, ?_⟩
  rw [Oper.semAt_plain F _ _ (notDefer_spec hd)]
  revert h3
  cases (execOp a.eval o).run P w with
  | halt x w' => intro h3; exact h3.elim
  | ok x w' =>
    cases x with
    | value u => rintro ⟨rfl, rfl⟩; exact h _ _ hw h2
    | skip => rintro ⟨rfl, rfl⟩; exact h _ _ hw h2
    | enter f args =>
      rintro ⟨rfl, hdp, hc⟩
      exact ⟨hdp, hc.mono fun e w'' ⟨he, hw''⟩ => by subst he; exact h _ _ hw'' h2⟩
    | _ => intro h3; exact h3.elim

theorem any_round {md : Region.Mode} {ops : Array Oper} {Q : Act → Prop} {Q' : Exit → Act → World → Prop} (hd : ∀ (i : Nat) (o : Oper), ops[i]? = some o → notDefer o = true) (hQ : ∀ a w, C w → Q a → Q' .normal a w) :
    ∀ (fuel : Nat) (listed : Array Bool) (a : Act) (w : World), C w → wpAnyQIn F n P md ops C Q fuel listed a → wpAnyIn F n P md ops Q' fuel listed a w
  | 0, _, _, _, hw, h => ⟨h.1, hQ _ _ hw h.2⟩
  | fuel + 1, listed, a, w, hw, h => ⟨fun h0 => hQ _ _ hw (h.1 h0), fun i hi => by
      have hq := h.2 i hi
      have next := fun (a' : Act) (w' : World) (hw' : C w') => any_round (md := md) hd hQ fuel (listed.setIfInBounds i true) a' w' hw'
      unfold qOpIn at hq
      unfold wpOpIn
      cases ho : ops[i]? with
      | none => simp only [ho] at hq; exact next _ _ hw hq
      | some o =>
        simp only [ho] at hq
        obtain ⟨ha, hq⟩ := hq
        by_cases hwt : Region.wanted o (yielded ops a.tmps) = true
        · simp only [hwt, if_true] at hq ⊢
          exact oper_round (hd i o ho) hw next ha hq
        · simp only [hwt, Bool.false_eq_true, if_false] at hq ⊢
          exact ⟨ha w hw, next _ _ hw hq⟩⟩

theorem region_quiet_round {id : Nat} {Q : Exit → Act → World → Prop} {a : Act} {w : World} {l : List Oper} (hd : l.all notDefer = true) (hm : P.follows .mixedOrders = true) (hB : Region.lexB .any l.toArray = true)
    (h : wpQuietIn F n P l.toArray (fun w' => ∃ q, w' = w.drewN q) (fun a' => ∀ w', (∃ q, w' = w.drewN q) → Q .normal a' w') l a) : (Code.region id l.toArray true).wpIn F n P Q a w := by
  simp only [Region.lexB, Bool.and_eq_true] at hB
  refine wpIn_region_any hm (any_round (C := fun w' => ∃ q, w' = w.drewN q) (Q := fun a' => ∀ w', (∃ q, w' = w.drewN q) → Q .normal a' w') (fun i o hi => ?_) (fun _ w' hw' h => h w' hw') _ _ _ _ ⟨1, rfl⟩ ?_)
  · have hm : o ∈ l := by
      have := List.getElem?_eq_some_iff.1 (by simpa using hi : l[i]? = some o)
      obtain ⟨hlt, rfl⟩ := this
      exact List.getElem_mem hlt
    exact List.all_eq_true.1 hd o hm
  · have := wpAnyQIn_lex (F := F) (n := n) (P := P) (C := fun w' => ∃ q, w' = w.drewN q) (md := .any) hB.1 l 0 (Array.replicate l.toArray.size false) a (by simp) (by simpa using hB.2) h
    simpa using this
end Go.Proofs.Ybulkdpc
