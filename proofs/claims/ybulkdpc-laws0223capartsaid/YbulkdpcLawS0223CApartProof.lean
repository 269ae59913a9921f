/-
  The law LawS0223CApart: the given statement.
-/
import Derived.Test.YbulkdpcRows
import Derived.WalkKit
import Derived.ProofKit
import Derived.OpenShut
import Derived.ShutString
import Derived.ChangeOld
import Derived.Below
import Derived.SizedLaws
import Derived.SliceStrings
import Derived.Test.YbulkdpcApart
namespace Go.Proofs.Ybulkdpc.lawS0223CApart
open Go.ChangeShapes Go.WideShapes Go.ChangeAt Go.RowKit
open Go.ChangeMaps (open_string shut_string)
set_option linter.unusedVariables false

theorem own : ownKnob Yba.prog.godebug = none := by kernel_rfl
theorem laidOut : laidOutB Yba.prog = true := by kernel_rfl

theorem cmd_small (cmd : ByteArray) (h : cmd.data.toList.length ≤ reachBytes) : cmd.size ≤ 140737488355328 := by
  have e : cmd.data.toList.length = cmd.size := Array.length_toList
  rw [e] at h
  have hr := reachBytes_lt
  omega

set_option maxHeartbeats 1000000 in
set_option maxRecDepth 100000 in
/-- A long slice: true at once. -/
theorem big (t0 t1 : Int) (cmd : ByteArray) (ea ra : Option Addr) (en ec rn rc : Nat) (w : World) (h : 1024 < en ∨ 1024 < rn) :
    Calls Yba.prog 6 #[.int .i64 t0, .int .i64 t1, .string cmd, .slice ea en ec, .slice ra rn rc] w fun e w' => e = .returned (.bool true) ∧ w' = w := by
  by_cases h1 : 1024 < en
  · have h1' : (1024 : Int) < (en : Int) := by omega
    go_enter Yba.func6, Yba.ntmps6
    go_wp2
    go_ret
    exact ⟨rfl, rfl⟩
  · have h2 : (1024 : Int) < (rn : Int) := by omega
    have h1' : ¬ (1024 : Int) < (en : Int) := by omega
    go_enter Yba.func6, Yba.ntmps6
    go_wp2
    go_ret
    exact ⟨rfl, rfl⟩

theorem walk (t0 t1 : Int) (cmd : ByteArray) (ea ra : Option Addr) (en ec rn rc : Nat) (es : Nat → ByteArray) (z : Nat → Int) (w : World) (hcmd : cmd.size ≤ 140737488355328)
    (hE : Reads w ea en fun j => .string (es j)) (hR : Reads w ra rn fun j => .int .i64 (z j)) :
    Calls Yba.prog 6 #[.int .i64 t0, .int .i64 t1, .string cmd, .slice ea en ec, .slice ra rn rc] w fun e w' => e = .returned (.bool true) ∧ Below w.heap.size w w' := by
  by_cases h : 1024 < en ∨ 1024 < rn
  · exact (big t0 t1 cmd ea ra en ec rn rc w h).mono fun e w' ⟨he, hw⟩ => ⟨he, by rw [hw]; exact Below.refl _ _⟩
  · exact apart_walk t0 t1 cmd ea ra en ec rn rc es z w (by omega) (by omega) hcmd hE hR

set_option maxRecDepth 100000 in
theorem lifted (os : Os) (started : os.Started) (H : Type) (enc : TypeId × Value → H) :
    ReturnsInHanded {} Yba.checked os 6 .any (Rows.lawS0223CApartSpec.pre6 enc Yba.prog Yba.f6 Rows.lawS0223CApartRow.domain false) (Rows.lawS0223CApartSpec.post enc Yba.prog Yba.f6 false true false false) := by
  refine returnsInHanded_of_change_sized (C := Yba.checked) own started (by kernel_rfl) Yba.func6
    (ChangeSpec.witness6 (enc := enc) (C := Yba.checked) false ⟨#[], #[.int .i64 0, .int .i64 0, .string ⟨#[]⟩, .slice none 0 0, .slice none 0 0], []⟩ 8 (by kernel_rfl) (by kernel_rfl) (by kernel_rfl) (by kernel_rfl)) ?_
  intro W base args ds gs before hval0 hW hcnd hsz0 _
  have hval : ∀ (j : Nat) t v, Yba.f6.params[j]? = some t → args[j]? = some v → Value.okWide Yba.prog W .any base t v := hval0
  have hsz : (DataW.weightsEach Yba.prog (Yba.f6.params.toList ++ Rows.lawS0223CApartSpec.plain.varTypes Yba.prog) (ds ++ gs)).all (· ≤ reachBytes) = true := hsz0
  have hW' := hW
  obtain ⟨p, q, hA0, hV, rfl, hfz, hnd⟩ := hW
  have hA : DataW.TrodAll enc Yba.prog W 0 (fun _ => true) true Yba.f6.params.toList args.toList ds p := hA0
  rw [Yba.params6] at hA hval hsz
  obtain ⟨v0, vs0, d0, ds0, p0, q0, hargs, rfl, rfl, h0, r0⟩ := trodAll_cons hA
  obtain ⟨v1, vs1, d1, ds1, p1, q1, rfl, rfl, rfl, h1, r1⟩ := trodAll_cons r0
  obtain ⟨v2, vs2, d2, ds2, p2, q2, rfl, rfl, rfl, h2, r2⟩ := trodAll_cons r1
  obtain ⟨v3, vs3, d3, ds3, p3, q3, rfl, rfl, rfl, h3, r3⟩ := trodAll_cons r2
  obtain ⟨v4, vs4, d4, ds4, p4, q4, rfl, rfl, rfl, h4, r4⟩ := trodAll_cons r3
  obtain ⟨rfl, rfl, rfl⟩ := trodAll_nil r4
  obtain rfl : args = #[v0, v1, v2, v3, v4] := by
    cases args
    exact congrArg List.toArray hargs
  obtain ⟨rfl, rfl⟩ := trodVars_none hV
  obtain ⟨a0, rfl, rfl, rfl, w0⟩ := open_int Yba.underlying3 (hval 0 3 v0 rfl rfl) h0
  obtain ⟨a1, rfl, rfl, rfl, w1⟩ := open_int Yba.underlying3 (hval 1 3 v1 rfl rfl) h1
  obtain ⟨cmd, rfl, rfl, rfl, w2⟩ := open_string Yba.underlying9 (hval 2 9 v2 rfl rfl) h2
  have hcmd : cmd.size ≤ 140737488355328 := by
    have := sized_string hsz (j := 2) (t := 9) rfl rfl
    exact cmd_small cmd this
  obtain ⟨ea, en, ec, rfl⟩ := okWide_slice Yba.underlying30 (hval 3 30 v3 rfl rfl)
  obtain ⟨ra, rn, rc, rfl⟩ := okWide_slice Yba.underlying31 (hval 4 31 v4 rfl rfl)
  have k3 := h3
  have k4 := h4
  have lt3 : ∀ x ∈ p3, x.block < W.heap.size := by obtain ⟨m, hm⟩ := k3; exact DataW.trod_lt m _ _ _ hm
  have lt4 : ∀ x ∈ p4, x.block < W.heap.size := by obtain ⟨m, hm⟩ := k4; exact DataW.trod_lt m _ _ _ hm
  obtain ⟨es, hE⟩ : ∃ es : Nat → ByteArray, Reads W ea en fun j => .string (es j) := by
    obtain ⟨fuel, hf⟩ := h3
    rcases open_strings Yba.underlying30 Yba.underlying9 (by kernel_rfl) hf with ⟨hcs, _⟩ | ⟨x, l, c, ss, hcs, _, hl, hm, hz, _, hcell, hws⟩
    · simp [Value.cells] at hcs
      obtain ⟨rfl, rfl, rfl⟩ := hcs
      exact ⟨fun _ => ByteArray.empty, fun j hj => absurd hj (by omega)⟩
    · simp [Value.cells] at hcs
      obtain ⟨rfl, rfl, rfl⟩ := hcs
      simp at hz
      exact ⟨fun j => ss.getD j ByteArray.empty, fun j hj => ⟨_, rfl, hcell j (by omega)⟩⟩
  obtain ⟨z, hR⟩ : ∃ z : Nat → Int, Reads W ra rn fun j => .int .i64 (z j) := by
    obtain ⟨fuel, hf⟩ := h4
    rcases open_ints Yba.underlying31 Yba.underlying3 (by kernel_rfl) hf with ⟨hcs, _⟩ | ⟨x, l, c, zs, hcs, _, hl, hm, hz, _, hcell, hwz⟩
    · simp [Value.cells] at hcs
      obtain ⟨rfl, rfl, rfl⟩ := hcs
      exact ⟨fun _ => 0, fun j hj => absurd hj (by omega)⟩
    · simp [Value.cells] at hcs
      obtain ⟨rfl, rfl, rfl⟩ := hcs
      simp at hz
      exact ⟨fun j => zs.getD j 0, fun j hj => ⟨_, rfl, hcell j (by omega)⟩⟩
  clear hA0 hval0
  refine (walk a0 a1 cmd ea ra en ec rn rc es z W hcmd hE hR).mono fun e W' ⟨he, bel⟩ => ?_
  subst he
  exact ⟨_, rfl, _, _, _, [], _, [], hW', trodAll_mk1 (shut_bool Yba.underlying4 _), (trodAll_cons_mk (shut_int Yba.underlying3 w0) (trodAll_cons_mk (shut_int Yba.underlying3 w1) (trodAll_cons_mk (shut_string Yba.underlying9 w2) (trodAll_cons_mk (Below.trod laidOut (by kernel_rfl) (of_decide_eq_true (by kernel_rfl)) k3 bel lt3) (trodAll_cons_mk (Below.trod laidOut (by kernel_rfl) (of_decide_eq_true (by kernel_rfl)) k4 bel lt4) trodAll_mk0))))), rfl, bel.frame _, fun h => by cases h⟩

theorem over : Rows.lawS0223CApartRow.holds Yba.pinned (OpenSpec.ofChange Rows.lawS0223CApartSpec) :=
  OpenClaim.holds_of_wide 6 Yba.f6 rfl rfl rfl rfl rfl rfl rfl ⟨rfl, rfl, rfl, rfl, rfl⟩ rfl rfl rfl rfl rfl (by kernel_rfl) Yba.func6 (by kernel_rfl)
    (of_decide_eq_true (by kernel_rfl)) (by unfold Func.isWrapper; first | (rw [if_pos (by decide +kernel)]; kernel_rfl) | (rw [if_neg (by decide +kernel)]; exact ⟨rfl, rfl⟩))
    (fun os started H enc _ => lifted os started H enc)

/-- THE STATEMENT -/
theorem proved : Rows.LawS0223CApartSaid :=
  over
end Go.Proofs.Ybulkdpc.lawS0223CApart
