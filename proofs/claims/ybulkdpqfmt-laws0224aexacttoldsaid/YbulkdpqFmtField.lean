/-
  parseClock's closure 'field', walked.
-/
import Derived.Test.YbulkdpqFmtErrorf
import Derived.RangeFuncBox
import Derived.Lib.ConvBytes
import Derived.Deep.Cut
import Derived.Lib.ItoaWalk
namespace Go.Proofs.YbulkdpqFmt
open Go.RowKit
set_option linter.unusedVariables false

/-- What 'field' reckons: each byte less 48, as a byte. -/
def dig (c : UInt8) : Nat := (c.toNat + 208) % 256
def fieldN (l : List UInt8) : Nat := l.foldl (fun n c => 10 * n + dig c) 0
def isDig (c : UInt8) : Bool := decide (48 ≤ c.toNat) && decide (c.toNat ≤ 57)
def fieldOk (o : Bool) (l : List UInt8) : Bool := l.foldl (fun o c => o && isDig c) o

theorem fieldN_snoc (l : List UInt8) (c : UInt8) : fieldN (l ++ [c]) = 10 * fieldN l + dig c := by simp [fieldN]
theorem fieldOk_snoc (o : Bool) (l : List UInt8) (c : UInt8) : fieldOk o (l ++ [c]) = (fieldOk o l && isDig c) := by simp [fieldOk]
theorem dig_lt (c : UInt8) : dig c < 256 := Nat.mod_lt _ (by omega)
theorem fold_le (l : List UInt8) : ∀ a, l.foldl (fun n c => 10 * n + dig c) a + 29 ≤ (a + 29) * 10 ^ l.length := by
  induction l with
  | nil => intro a; simp
  | cons c l ih =>
    intro a
    have h := ih (10 * a + dig c)
    have hd := dig_lt c
    have hm : (10 * a + dig c + 29) * 10 ^ l.length ≤ ((a + 29) * 10) * 10 ^ l.length := Nat.mul_le_mul_right _ (by omega)
    rw [List.foldl_cons, List.length_cons, Nat.pow_succ, Nat.mul_comm (10 ^ l.length) 10, ← Nat.mul_assoc]
    omega
theorem fieldN_le (l : List UInt8) (h : l.length ≤ 3) : fieldN l ≤ 30000 := by
  have := fold_le l 0
  have hp : 10 ^ l.length ≤ 10 ^ 3 := Nat.pow_le_pow_right (by omega) h
  unfold fieldN
  omega
theorem dig_int (c : UInt8) : (((c.toNat : Int) - 48) % 256) = (dig c : Int) := by unfold dig; omega
theorem dig_int' (c : UInt8) (h : 48 ≤ (c.toNat : Int)) : ((c.toNat : Int) - 48) = (dig c : Int) := by
  have := c.toNat_lt
  unfold dig; omega
theorem take_snoc (l : List UInt8) (k : Nat) (h : k < l.length) : l.take (k + 1) = l.take k ++ [l.getD k 0] := by
  rw [List.take_succ_eq_append_getElem h]; simp [List.getD, h]

/-- Between two rounds of field's loop. -/
structure Mid (w wr : World) (bo : Nat) (ob : Bool) (l : List UInt8) : Prop where
  box : Boxed wr bo 4 (.bool ob)
  size : wr.heap.size = w.heap.size + 1
  old : ∀ c, c < w.heap.size → c ≠ bo → wr.heap[c]? = w.heap[c]?
  new : ∀ j, j < l.length → wr.cell? ⟨w.heap.size, j, none⟩ = some (.int .u8 (l.getD j 0).toNat)
  tape : wr.tape = w.tape
  os : wr.os = w.os
  output : wr.output = w.output
theorem Mid.set {w wr : World} {bo : Nat} {ob : Bool} {l : List UInt8} (h : Mid w wr bo ob l) (hlt : bo < w.heap.size) (v : Bool) : Mid w (wr.setCell ⟨bo, 0, none⟩ (.bool v)) bo v l := by
  have hset : ∀ c, c ≠ bo → (wr.setCell ⟨bo, 0, none⟩ (.bool v)).heap[c]? = wr.heap[c]? := fun c hc => Below.heap_setCell _ _ _ _ hc
  refine ⟨h.box.set _, by simpa [World.setCell] using h.size, fun c hc hne => (hset c hne).trans (h.old c hc hne), fun j hj => ?_, h.tape, h.os, h.output⟩
  rw [World.cell?_of_block (hset _ (by simp; omega))]; exact h.new j hj

theorem Mid.next {w wr : World} {bo k N : Nat} {o ob v : Bool} {l : List UInt8} {c : UInt8} {x : Int} (h : Mid w wr bo (fieldOk o (l.take k)) l) (hlt : bo < w.heap.size) (hk : k < l.length) (hc : l.getD k 0 = c)
    (hob : fieldOk o (l.take k) = ob) (hN : fieldN (l.take k) = N) (hx : x = (dig c : Int)) (hv : v = (ob && isDig c)) :
    Value.int .i64 (10 * (N : Int) + x) = .int .i64 (fieldN (l.take (k + 1))) ∧ Mid w (wr.setCell ⟨bo, 0, none⟩ (.bool v)) bo (fieldOk o (l.take (k + 1))) l := by
  rw [take_snoc l k hk, hc, fieldN_snoc, fieldOk_snoc, hN, hob, hx, ← hv]
  exact ⟨by simp, h.set hlt v⟩

set_option maxHeartbeats 400000 in
theorem field_calls (i j : Nat) (t u : ByteArray) (hu : t.extract i j = u) (hij : i ≤ j) (hj : j ≤ t.size) (hsz : u.size ≤ 3) (bt bo : Nat) (o : Bool) (w : World) (ht : Boxed w bt 9 (.string t)) (ho : Boxed w bo 4 (.bool o)) (hne : bt ≠ bo) :
    Calls Ybaf.prog 13 #[.int .i64 i, .int .i64 j, .pointer (some ⟨bt, 0, none⟩), .pointer (some ⟨bo, 0, none⟩)] w fun e w' => e = .returned (.int .i64 (fieldN u.data.toList)) ∧ Boxed w' bo 4 (.bool (fieldOk o u.data.toList)) ∧
      w'.heap.size = w.heap.size + 1 ∧ (∀ c, c < w.heap.size → c ≠ bo → w'.heap[c]? = w.heap[c]?) ∧ w'.tape = w.tape ∧ w'.os = w.os ∧ w'.output = w.output := by
  have hct := ht.cell
  have hcv : ∀ W, (convert 9 33 (.string u)).run Ybaf.prog W = .ok (.slice (some ⟨W.heap.size, 0, none⟩) u.size (grownCap W u.size 0 5)) (Lib.bytesWorld W 5 u) := fun W => Lib.run_convert_string_bytes W 9 33 5 u Ybaf.underlying9 Ybaf.underlying33 Ybaf.underlying5
  go_enter Ybaf.func13, Ybaf.ntmps13
  go_wp2
  have hbo := ho.lt
  have hM0 : Mid w (Lib.bytesWorld w 5 u) bo o u.data.toList := by
    refine ⟨(Lib.bytesWorld_at_old w 5 u bo hbo).trans ho, Lib.bytesWorld_size w 5 u, fun c hc _ => Lib.bytesWorld_at_old w 5 u c hc, fun j hj => Lib.bytesWorld_cell w 5 u j (by simpa using hj), rfl, rfl, rfl⟩
  have hul : u.data.toList.length = u.size := Array.length_toList
  have HUL : Hid (u.data.toList.length = u.size) := hul
  clear hul hcv hct
  go_loopw [7, 16] (fun n i wr => ∃ k : Nat, k ≤ u.size ∧ i = .int .i64 k ∧ n = .int .i64 (fieldN (u.data.toList.take k)) ∧ Mid w wr bo (fieldOk o (u.data.toList.take k)) u.data.toList) (fun _ i _ => u.size - (intOf i).toNat)
  case atStart => exact ⟨0, Nat.zero_le _, rfl, rfl, hM0⟩
  case round =>
    obtain ⟨k, hk, rfl, rfl, hM⟩ := hrel
    by_cases hlt : k < u.size
    · have hcb := hM.box.cell
      have hfb := hM.box.frozen
      have hcn := hM.new k (by rw [HUL.out]; exact hlt)
      obtain ⟨c, hc⟩ : ∃ c, u.data.toList.getD k 0 = c := ⟨_, rfl⟩
      rw [hc] at hcn
      obtain ⟨ob, hob⟩ : ∃ ob, fieldOk o (u.data.toList.take k) = ob := ⟨_, rfl⟩
      rw [hob] at hcb
      have hc255 : c.toNat ≤ 255 := by have := c.toNat_lt; omega
      have HC : Hid (u.data.toList.getD k 0 = c) := hc
      have HOB : Hid (fieldOk o (u.data.toList.take k) = ob) := hob
      obtain ⟨N, hN⟩ : ∃ N, fieldN (u.data.toList.take k) = N := ⟨_, rfl⟩
      have HN : Hid (fieldN (u.data.toList.take k) = N) := hN
      have hNb : N ≤ 30000 := by rw [← hN]; exact fieldN_le _ (by simp; omega)
      rw [hN]
      clear hc hob hN
      have hkl : k < u.data.toList.length := by rw [HUL.out]; exact hlt
      cases ob with
      | false =>
        have HZ := hM.next hbo hkl HC.out HOB.out HN.out (dig_int c) (v := false) (by simp)
        have HZ' : Hid _ := HZ
        clear HZ
        go_wp2
        exact ⟨⟨k + 1, by omega, by go_num, HZ'.out.1, HZ'.out.2⟩, by simp [intOf]; omega⟩
      | true =>
        by_cases h48 : 48 ≤ (c.toNat : Int)
        · have HZ := hM.next hbo hkl HC.out HOB.out HN.out (dig_int' c h48) (v := decide ((c.toNat : Int) ≤ 57)) (by unfold isDig; rw [decide_eq_true (show 48 ≤ c.toNat by omega)]; simp; omega)
          have HZ' : Hid _ := HZ
          clear HZ
          go_wp2
          exact ⟨⟨k + 1, by omega, by go_num, HZ'.out.1, HZ'.out.2⟩, by simp [intOf]; omega⟩
        · have HZ := hM.next hbo hkl HC.out HOB.out HN.out (dig_int c) (v := false) (by unfold isDig; rw [decide_eq_false (show ¬ 48 ≤ c.toNat by omega)]; simp)
          have HZ' : Hid _ := HZ
          clear HZ
          go_wp2
          exact ⟨⟨k + 1, by omega, by go_num, HZ'.out.1, HZ'.out.2⟩, by simp [intOf]; omega⟩
    · have e : u.data.toList.take k = u.data.toList := List.take_of_length_le (by rw [HUL.out]; omega)
      rw [e] at hM ⊢
      go_wp2
      go_ret
      exact ⟨rfl, hM.box, hM.size, hM.old, hM.tape, hM.os, hM.output⟩
end Go.Proofs.YbulkdpqFmt
