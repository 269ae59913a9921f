/-
  The law LawS0227AExact: the given statement.
-/
import Derived.Test.YbulkdrgRows
import Derived.WalkKit
import Derived.ProofKit
import Derived.OpenShut
import Derived.ChangeOld
import Derived.Below
import Derived.Laws.BytesArg
import Derived.Deep.Slices
import Derived.Test.YbulkdrgExact
namespace Go.Proofs.Ybulkdrg.lawS0227AExact
open Go.ChangeShapes Go.WideShapes Go.ChangeAt Go.RowKit
set_option linter.unusedVariables false

theorem own : ownKnob Yba.prog.godebug = none := by kernel_rfl
theorem laidOut : laidOutB Yba.prog = true := by kernel_rfl
theorem cells31 : Yba.prog.cellsOf 31 = 3 := by kernel_rfl
theorem cells29 : Yba.prog.cellsOf 29 = 1 := by kernel_rfl
theorem cells5 : Yba.prog.cellsOf 5 = 1 := by kernel_rfl
theorem cells3 : Yba.prog.cellsOf 3 = 1 := by kernel_rfl

theorem block_lt {w : World} {p : Addr} {v : Value} (h : w.cell? p = some v) : p.block < w.heap.size := by
  rcases Nat.lt_or_ge p.block w.heap.size with hl | hl
  · exact hl
  · simp [World.cell?, Array.getElem?_eq_none hl] at h

/-- A byte slice that is read as data is readable as long as its memory stands. -/
theorem good_of {H : Type} {enc : TypeId × Value → H} {W : World} {fuel : Nat} {v : Value} {x : DataW H × List MemPlace} (h : DataW.trod enc Yba.prog W 0 (fun _ => true) true fuel 29 [v] = some x) : ∃ s, Good W v s := by
  rcases open_ints Yba.underlying29 Yba.underlying5 cells5 h with ⟨hcs, _⟩ | ⟨a, len, cap, zs, hcs, _, hl, hm, hz, _, hcell, hwz⟩
  · obtain rfl : v = .slice none 0 0 := by simpa using hcs
    exact ⟨ByteArray.empty, ⟨_, _, _, rfl⟩, fun w' _ => run_convert_bytes_nil w' 29 5 Yba.underlying29 Yba.underlying5 0 0 9 Yba.underlying9⟩
  · obtain rfl : v = .slice (some a) len cap := by simpa using hcs
    simp at hz
    refine ⟨(zs.take len).foldl (fun r n => r.push (UInt8.ofNat n.toNat)) ByteArray.empty, ⟨_, _, _, rfl⟩, fun w' hB => ?_⟩
    rw [run_convert_bytes_string w' 29 9 5 (some a) len cap Yba.underlying29 Yba.underlying5 Yba.underlying9]
    refine run_bytesToString w' a len cap (zs.take len) ?_
    have hll : ((zs.take len).map (Value.int .u8)).length = len := by simp; omega
    have := run_loadCells_list (P := Yba.prog) w' a ((zs.take len).map (Value.int .u8)) (fun j u hj => by
      have hj' : j < len := by
        have := (List.getElem?_eq_some_iff.1 hj).1
        omega
      have hc := hcell j (by omega)
      rw [hB.cell (block_lt hc), hc]
      rw [List.getElem?_map, List.getElem?_take_of_lt hj', List.getElem?_eq_getElem (by omega)] at hj
      simp at hj
      rw [← hj]
      simp [List.getD, show j < zs.length by omega])
    rw [hll] at this
    exact this

/-- What a row of pieces is. -/
theorem piece_of {H : Type} {enc : TypeId × Value → H} {W : World} {n : Nat} {cs : List Value} {p : Addr} {x : DataW H × List MemPlace} (hc : W.cells? 0 p 3 = some cs) (h : DataW.trod enc Yba.prog W 0 (fun _ => true) true n 31 cs = some x) :
    ∃ u v k, At W p u v k ∧ (∃ s, Good W u s) ∧ (∃ s, Good W v s) := by
  obtain ⟨xs, m, rfl, rfl, hl, hxl, hf⟩ := DataW.trod_struct Yba.underlying31 h
  obtain ⟨_, hlen, hat⟩ := World.cells?_some hc
  have hxl3 : xs.length = 3 := hxl
  match cs, hlen with
  | [u, v, k], _ =>
    have f0 : DataW.trod enc Yba.prog W 0 (fun _ => true) true m 29 (([u, v, k].drop 0).take (Yba.prog.cellsOf 29)) = xs[0]? := hf 0 _ rfl
    have f1 : DataW.trod enc Yba.prog W 0 (fun _ => true) true m 29 (([u, v, k].drop 1).take (Yba.prog.cellsOf 29)) = xs[1]? := hf 1 _ rfl
    have f2 : DataW.trod enc Yba.prog W 0 (fun _ => true) true m 3 (([u, v, k].drop 2).take (Yba.prog.cellsOf 3)) = xs[2]? := hf 2 _ rfl
    rw [cells29, List.getElem?_eq_getElem (by omega)] at f0 f1
    rw [cells3, List.getElem?_eq_getElem (by omega)] at f2
    have g0 : DataW.trod enc Yba.prog W 0 (fun _ => true) true m 29 [u] = some xs[0] := f0
    have g1 : DataW.trod enc Yba.prog W 0 (fun _ => true) true m 29 [v] = some xs[1] := f1
    have g2 : DataW.trod enc Yba.prog W 0 (fun _ => true) true m 3 [k] = some xs[2] := f2
    obtain ⟨z, hz, -, -⟩ := DataW.trod_int Yba.underlying3 g2
    obtain rfl : k = .int .i64 z := by simpa using hz
    have e0 := hat 0 (by omega)
    have e1 := hat 1 (by omega)
    have e2 := hat 2 (by omega)
    have p0 : p.add 0 = p := by simp [Addr.add]
    rw [p0] at e0
    exact ⟨u, v, z, ⟨block_lt e0, e0, e1, e2⟩, good_of g0, good_of g1⟩

/-- The texts of the byte slices, as one function. -/
theorem texts (W : World) : ∃ tx : Value → ByteArray, ∀ v, (∃ s, Good W v s) → Good W v (tx v) := by
  refine Classical.axiomOfChoice (r := fun v s => (∃ s, Good W v s) → Good W v s) fun v => ?_
  by_cases h : ∃ s, Good W v s
  · obtain ⟨s, hs⟩ := h
    exact ⟨s, fun _ => hs⟩
  · exact ⟨ByteArray.empty, fun k => absurd k h⟩

theorem walk {H : Type} {enc : TypeId × Value → H} (W : World) (fuel : Nat) (ao : Option Addr) (L cap : Nat) (x : DataW H × List MemPlace) (h : DataW.trod enc Yba.prog W 0 (fun _ => true) true fuel 22 [.slice ao L cap] = some x) (n : Int) :
    Calls Yba.prog 3 #[.slice ao L cap, .int .i64 n] W fun e w' => e = .returned (.bool true) ∧ Below W.heap.size W w' := by
  by_cases hL : L ≤ 1024
  · obtain ⟨f, hf⟩ : ∃ f : Nat → Value × Value × Int, ∀ j, j < L → (∃ a, ao = some a ∧ ∃ p, a.add (j * 3) = p ∧ At W p (f j).1 (f j).2.1 (f j).2.2) ∧ (∃ s, Good W (f j).1 s) ∧ (∃ s, Good W (f j).2.1 s) := by
      refine Classical.axiomOfChoice (r := fun (j : Nat) (f : Value × Value × Int) => j < L → (∃ a, ao = some a ∧ ∃ p, a.add (j * 3) = p ∧ At W p f.1 f.2.1 f.2.2) ∧ (∃ s, Good W f.1 s) ∧ (∃ s, Good W f.2.1 s)) fun j => ?_
      by_cases hj : j < L
      case neg => exact ⟨(.bool true, .bool true, 0), fun h => absurd h hj⟩
      rcases Go.Deep.open_slice Yba.underlying22 h with ⟨hcs, _⟩ | ⟨a, len, c, m, fu, D, Pl, hcs, _, hl, hm, hmm, _, hx⟩
      · simp at hcs
        omega
      · simp at hcs
        obtain ⟨rfl, rfl, rfl⟩ := hcs
        simp at hmm
        obtain ⟨cs, h1, h2⟩ := hx j (by omega)
        rw [cells31] at h1
        obtain ⟨u, v, k, hA, hu, hv⟩ := piece_of h1 h2
        exact ⟨(u, v, k), fun _ => ⟨⟨a, rfl, _, rfl, hA⟩, hu, hv⟩⟩
    obtain ⟨tx, htx⟩ := texts W
    exact exact_calls W ao L cap (fun j => (f j).1) (fun j => (f j).2.1) (fun j => (f j).2.2) tx
      ⟨fun j hj => (hf j hj).1, fun j hj => (hf j hj).2.1.choose_spec.shape, fun j hj => (hf j hj).2.2.choose_spec.shape⟩
      ⟨fun j hj => htx _ (hf j hj).2.1, fun j hj => htx _ (hf j hj).2.2⟩ hL n
  · exact exact_long ao L cap (by omega) n W

set_option maxRecDepth 100000 in
theorem lifted (os : Os) (started : os.Started) (H : Type) (enc : TypeId × Value → H) :
    ReturnsInHanded {} Yba.checked os 3 .any (Rows.lawS0227AExactSpec.pre6 enc Yba.prog Yba.f3 Rows.lawS0227AExactRow.domain false) (Rows.lawS0227AExactSpec.post enc Yba.prog Yba.f3 false true false false) := by
  refine returnsInHanded_of_change (C := Yba.checked) own started (by kernel_rfl) Yba.func3
    (ChangeSpec.witness6 (enc := enc) (C := Yba.checked) false ⟨#[], #[.slice none 0 0, .int .i64 0], []⟩ 8 (by kernel_rfl) (by kernel_rfl) (by kernel_rfl) (by kernel_rfl)) ?_
  intro W base args ds gs before hval0 hW hcnd _
  have hval : ∀ (j : Nat) t v, Yba.f3.params[j]? = some t → args[j]? = some v → Value.okWide Yba.prog W .any base t v := hval0
  have hW' := hW
  obtain ⟨p, q, hA0, hV, rfl, hfz, hnd⟩ := hW
  have hA : DataW.TrodAll enc Yba.prog W 0 (fun _ => true) true Yba.f3.params.toList args.toList ds p := hA0
  rw [Yba.params3] at hA hval
  obtain ⟨v0, vs0, d0, ds0, p0, q0, hargs, rfl, rfl, h0, r0⟩ := trodAll_cons hA
  obtain ⟨v1, vs1, d1, ds1, p1, q1, rfl, rfl, rfl, h1, r1⟩ := trodAll_cons r0
  obtain ⟨rfl, rfl, rfl⟩ := trodAll_nil r1
  obtain rfl : args = #[v0, v1] := by cases args; exact congrArg List.toArray hargs
  obtain ⟨rfl, rfl⟩ := trodVars_none hV
  obtain ⟨a1, rfl, rfl, rfl, w1⟩ := open_int Yba.underlying3 (hval 1 3 v1 rfl rfl) h1
  obtain ⟨ao, L, cap, rfl⟩ := okWide_slice Yba.underlying22 (hval 0 22 v0 rfl rfl)
  have k0 := h0
  have lt0 : ∀ x ∈ p0, x.block < W.heap.size := by obtain ⟨m, hm⟩ := k0; exact DataW.trod_lt m _ _ _ hm
  clear hA0 hval0
  obtain ⟨fuel, hf⟩ := h0
  refine (walk W fuel ao L cap _ (by simpa [Value.cells] using hf) a1).mono fun e W' ⟨he, bel⟩ => ?_
  subst he
  exact ⟨_, rfl, _, _, _, [], _, [], hW', trodAll_mk1 (shut_bool Yba.underlying4 _), (trodAll_cons_mk (Below.trod laidOut (by kernel_rfl) (of_decide_eq_true (by kernel_rfl)) k0 bel lt0) (trodAll_cons_mk (shut_int Yba.underlying3 w1) trodAll_mk0)), rfl, bel.frame _, fun h => by cases h⟩

theorem over : Rows.lawS0227AExactRow.holds Yba.pinned (OpenSpec.ofChange Rows.lawS0227AExactSpec) :=
  OpenClaim.holds_of_wide 3 Yba.f3 rfl rfl rfl rfl rfl rfl rfl ⟨rfl, rfl, rfl, rfl, rfl⟩ rfl rfl rfl rfl rfl (by kernel_rfl) Yba.func3 (by kernel_rfl)
    (of_decide_eq_true (by kernel_rfl)) (by unfold Func.isWrapper; first | (rw [if_pos (by decide +kernel)]; kernel_rfl) | (rw [if_neg (by decide +kernel)]; exact ⟨rfl, rfl⟩))
    (fun os started H enc _ => lifted os started H enc)

/-- THE STATEMENT -/
theorem proved : Rows.LawS0227AExactSaid :=
  over
end Go.Proofs.Ybulkdrg.lawS0227AExact
