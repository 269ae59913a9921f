/-
  The law LawS0229BPart: the given row and its tied card.
-/
import Derived.Test.YbulkdsiDoorRows
import Derived.Test.YbulkdsiDoorTie
import Derived.Test.YbulkdsiDoorCards
import Derived.WalkKit
import Derived.ProofKit
import Derived.OpenShut
import Derived.ShutString
import Derived.ChangeOld
import Derived.ChangeVars
import Derived.Below
import Derived.WalkSmall
import Derived.RowKitTokens
import Derived.LaidLaws
import Derived.LaidMore
import Derived.LaidHandle
import Derived.Stop.Joined
import Derived.Stop.LaidErr
import Derived.SevenTiedAt
import Derived.Test.YbulkdsiDoorLaw
namespace Go.Proofs.YbulkdsiDoor.lawS0229BPart
open Go.ChangeShapes Go.WideShapes Go.ChangeAt Go.RowKit
open Go.ChangeMaps (open_string shut_string)
open Go.Extern.Stop Go.Stop Go.Extern
set_option linter.unusedVariables false

theorem own : ownKnob Ybad.prog.godebug = none := by kernel_rfl
theorem laidOut : laidOutB Ybad.prog = true := by kernel_rfl
/-- The names of the two listed variables. -/
def n0 : String := Rows.lawS0229BPartSpec.vars.getD 0 ""
def n1 : String := Rows.lawS0229BPartSpec.vars.getD 1 ""
theorem g0 : Ybad.prog.globalNamed n0 = some 0 := by kernel_rfl
theorem g1 : Ybad.prog.globalNamed n1 = some 1 := by kernel_rfl
theorem t0 : (Ybad.prog.globals[0]?).map (·.type) = some 38 := by kernel_rfl
theorem t1 : (Ybad.prog.globals[1]?).map (·.type) = some 38 := by kernel_rfl

/-- The door's own heap meets the condition. -/
theorem door_met (os : Os) (args : Array Value) : laidMetH Ybad.prog Rows.lawS0229BPartRow.laid ((World.doorLaid Ybad.prog 47 os).forCall (fun _ _ => 0) ⟨#[], args, []⟩).memory := by
  rw [MakeChecks.laidMetH_plain _ _ _ (by kernel_rfl)]
  exact laidMet_of_run' 8 (by kernel_rfl) (by kernel_rfl)

theorem cells81 : Ybad.prog.cellsOf 81 = 1 := by kernel_rfl
theorem cells9 : Ybad.prog.cellsOf 9 = 1 := by kernel_rfl
theorem star : "*" ++ "errors.errorString" = "*errors.errorString" := by decide
theorem row63 (u : TypeId) (h : Ybad.prog.typeName? 3 u = some "*errors.errorString") : u = 63 :=
  typeName_ptr_named (nm := "errors.errorString") (by rw [star]; kernel_rfl) (by kernel_rfl) (by decide) u (by rw [star]; exact h)

/-- What a slice of bytes that came in leads to. -/
def IsRow (w : World) (a : Option Addr) (len cap : Nat) : Prop :=
  (a = none ∧ len = 0 ∧ cap = 0) ∨
  ∃ (x : Addr) (z : Nat → Int), a = some x ∧ len ≤ cap ∧ cap ≤ maxLen ∧ (∀ i, i < len → w.cell? (x.add i) = some (.int .u8 (z i))) ∧ ∀ i, 0 ≤ z i ∧ z i ≤ 255

/-! ### The walk -/
theorem walk (a : Option Addr) (len cap : Nat) (w : World) (h : IsRow w a len cap) :
    Calls Ybad.prog 3 #[.slice a len cap] w fun e w' => e = .returned (.bool true) ∧ Below w.heap.size w w' := by
  rcases h with ⟨rfl, rfl, rfl⟩ | ⟨⟨b, off, spot⟩, z, rfl, hl, hm, hc, hz⟩
  · exact law_zero none 0 w
  · by_cases h0 : len = 0
    · subst h0
      exact law_zero _ cap w
    · have hspot : spot = none := by simpa [Addr.add] using World.cell?_spot (hc 0 (by omega))
      subst hspot
      refine law_some b off len cap z hl hm w (fun i hi => ?_) hz
      have h := hc i hi
      by_cases hi0 : i = 0
      · subst hi0
        simpa [Addr.add] using h
      · simpa [Addr.add, hi0] using h

set_option maxRecDepth 100000 in
theorem lifted (os : Os) (started : os.Started) (H : Type) (enc : TypeId × Value → H) :
    ReturnsInHanded {} Ybad.checked os 3 .any (fun w args => (Rows.lawS0229BPartSpec.pre enc Ybad.prog Ybad.f3 [] false w args ∧ laidMetH Ybad.prog Rows.lawS0229BPartRow.laid w) ∧ sizedMet enc Ybad.prog Ybad.f3 (OpenSpec.ofChange Rows.lawS0229BPartSpec) false w args)
      (Rows.lawS0229BPartSpec.post enc Ybad.prog Ybad.f3 false true false false) := by
  refine returnsInHanded_of_change_and (C := Ybad.checked) (X := fun w _ => laidMetH Ybad.prog Rows.lawS0229BPartRow.laid w) (fun _ _ _ hh h => h.of_heap hh) own started (by kernel_rfl) Ybad.func3
    (ChangeSpec.witness_shaped (enc := enc) (C := Ybad.checked) (os := os) (X := fun w _ => laidMetH Ybad.prog Rows.lawS0229BPartRow.laid w) false (World.doorLaid Ybad.prog 47 os) #[.slice none 0 0] 8 rfl (World.shaped_of_RefB (by kernel_rfl) (by kernel_rfl)) (by kernel_rfl) (by kernel_rfl) (by kernel_rfl) (door_met os _)) ?_
  intro W base args ds gs before hval0 hW _ _ hL _
  have hval : ∀ (j : Nat) t v, Ybad.f3.params[j]? = some t → args[j]? = some v → Value.okWide Ybad.prog W .any base t v := hval0
  have hW' := hW
  obtain ⟨p, q, hA0, hV0, rfl, hfz, hnd⟩ := hW
  have hA : DataW.TrodAll enc Ybad.prog W 0 (fun _ => true) true Ybad.f3.params.toList args.toList ds p := hA0
  have hV : DataW.TrodVars enc Ybad.prog W (fun _ => true) [n0, n1] gs q := hV0
  rw [Ybad.params3] at hA hval
  obtain ⟨v0, d0, rfl, rfl, h0⟩ := trodAll_one hA
  obtain ⟨a, len, cap, rfl⟩ := okWide_slice Ybad.underlying22 (hval 0 22 v0 rfl rfl)
  have k0 := h0
  have lt0 : ∀ x ∈ p, x.block < W.heap.size := by obtain ⟨m, hm⟩ := k0; exact DataW.trod_lt m _ _ _ hm
  have hrow : IsRow W a len cap := by
    obtain ⟨fuel, hf⟩ := h0
    rcases open_ints Ybad.underlying22 Ybad.underlying5 (by kernel_rfl) hf with ⟨hcs, _⟩ | ⟨x, l, c, zs, hcs, _, hl, hm, hz, _, hcell, hwz⟩
    · simp [Value.cells] at hcs
      obtain ⟨rfl, rfl, rfl⟩ := hcs
      exact .inl ⟨rfl, rfl, rfl⟩
    · simp [Value.cells] at hcs
      obtain ⟨rfl, rfl, rfl⟩ := hcs
      have hzl : zs.length = cap := by simpa using hz
      refine .inr ⟨x, fun i => zs.getD i 0, rfl, hl, hm, fun i hi => hcell i (by omega), fun i => ?_⟩
      show 0 ≤ zs.getD i 0 ∧ zs.getD i 0 ≤ 255
      by_cases hi : i < zs.length
      · have hmem : zs.getD i 0 ∈ zs := by
          rw [List.getD_eq_getElem?_getD, List.getElem?_eq_getElem hi]
          exact List.getElem_mem hi
        have := bounds_u8 (hwz _ hmem)
        exact ⟨this.1, by omega⟩
      · rw [List.getD_eq_getElem?_getD, List.getElem?_eq_none (by omega)]
        exact ⟨by decide, by decide⟩
  have hL' : laidMet Ybad.prog Rows.lawS0229BPartRow.laid W := by rwa [MakeChecks.laidMetH_plain _ _ _ (by kernel_rfl)] at hL
  obtain ⟨a0, s0, hv0, _, _, _⟩ := laid_sentinel (n := n0) hL' g0 t0 Ybad.underlying38 row63 Ybad.underlying63 Ybad.underlying81 rfl rfl Ybad.underlying9 cells81 cells9
  obtain ⟨a1, s1, hv1, _, _, _⟩ := laid_sentinel (n := n1) hL'.tail g1 t1 Ybad.underlying38 row63 Ybad.underlying63 Ybad.underlying81 rfl rfl Ybad.underlying9 cells81 cells9
  obtain ⟨rfl, rfl⟩ := hV.unique (vars_read2 enc g0 t0 Ybad.underlying38 hv0 trivial g1 t1 Ybad.underlying38 hv1 trivial _)
  clear hA0 hV0 hval0
  have hg0 : W.cell? ⟨0, 0, none⟩ = some (.iface 63 (.pointer (some a0))) := by simpa using World.var?_cell g0 hv0 0
  have hg1 : W.cell? ⟨1, 0, none⟩ = some (.iface 63 (.pointer (some a1))) := by simpa using World.var?_cell g1 hv1 0
  have l0 := cell_lt hg0
  have l1 := cell_lt hg1
  refine (walk a len cap W hrow).mono fun e W' ⟨he, bel⟩ => ?_
  subst he
  exact ⟨_, rfl, _, _, _, [], _, _, hW', trodAll_mk1 (shut_bool Ybad.underlying4 _), trodAll_mk1 (Below.trod laidOut (by kernel_rfl) (of_decide_eq_true (by kernel_rfl)) k0 bel lt0),
    vars_read2 enc g0 t0 Ybad.underlying38 (var?_below bel g0 l0 hv0) trivial g1 t1 Ybad.underlying38 (var?_below bel g1 l1 hv1) trivial _, bel.frame _, fun h => by cases h⟩

theorem over : Rows.LawS0229BPartSaid :=
  OpenClaim.holds_of_wide 3 Ybad.f3 rfl rfl rfl rfl rfl rfl rfl ⟨rfl, rfl, rfl, rfl, rfl⟩ rfl rfl rfl rfl rfl (by kernel_rfl) Ybad.func3 (by kernel_rfl)
    (of_decide_eq_true (by kernel_rfl)) (by unfold Func.isWrapper; first | (rw [if_pos (by decide +kernel)]; kernel_rfl) | (rw [if_neg (by decide +kernel)]; exact ⟨rfl, rfl⟩))
    (fun os started H enc _ => lifted os started H enc)

/-- THE STATEMENT: the tied card. -/
theorem proved : Rows.LawS0229BPartCardSaid :=
  Claim7.holds_tied_plain_at .later [] [.sentinel, .sentinel] true (true, "bf69229b0db55f7ea7bdcea722c2f580b2678890c7303a551a48d86191f2b269") false
    over (fun _ h => by cases h) (by kernel_rfl) (fun _ h => by cases h) lawS0229BPart_row_tie rfl ⟨rfl, rfl⟩ (by kernel_rfl) rfl
    (fun f fn hf hfn => by
      obtain rfl : f = 3 := Option.some.inj ((show Ybad.prog.funcNamed Rows.lawS0229BPartRow.func = some 3 by kernel_rfl).symm.trans hf) |>.symm
      obtain rfl : fn = Ybad.f3 := (Option.some.inj (Ybad.func3.symm.trans hfn)).symm
      exact ⟨by kernel_rfl, fun j t ht => by
        rw [Ybad.params3] at ht
        have h3 : t = 22 := by
          rcases j with _ | j
          · simpa using ht.symm
          · simp at ht
        subst h3
        exact (show Ybad.prog.wantsStandIn 22 = false by kernel_rfl)⟩)
    (by kernel_rfl)
end Go.Proofs.YbulkdsiDoor.lawS0229BPart
