/-
  The law of the exact window, walked.
-/
import Derived.Test.YbulkdpqFmtShape
import Derived.Laws.IdiomStrings
namespace Go.Proofs.YbulkdpqFmt
open Go.RowKit Go.Extern.Stop Go.Stop Go.Extern
set_option linter.unusedVariables false

/-- The two bytes that write a number below 100. -/
structure Two (n : Nat) (x y : UInt8) : Prop where
  hi : x.toNat = 48 + n / 10
  lo : y.toNat = 48 + n % 10
theorem Two.of (n : Nat) (h : n < 100) : Two n (UInt8.ofNat (48 + n / 10)) (UInt8.ofNat (48 + n % 10)) :=
  ⟨by simp; omega, by simp; omega⟩
theorem Two.num {n : Nat} {x y : UInt8} (h : Two n x y) (hn : n < 100) : fieldN [x, y] = n := by
  have h1 := h.hi
  have h2 := h.lo
  simp [fieldN, dig, h1, h2]
  omega
theorem Two.ok {n m : Nat} {x y z t : UInt8} (h : Two n x y) (k : Two m z t) (hn : n < 100) (hm : m < 100) : fieldOk (fieldOk true [x, y]) [z, t] = true := by
  have h1 := h.hi
  have h2 := h.lo
  have h3 := k.hi
  have h4 := k.lo
  simp [fieldOk, isDig, h1, h2, h3, h4]
  omega

set_option maxHeartbeats 400000 in
theorem two_calls (n : Nat) (hn : n < 100) (x y : UInt8) (h : Two n x y) (w : World) :
    Calls Ybaf.prog 5 #[.int .i64 n] w fun e w' => e = .returned (.string ⟨#[x, y]⟩) ∧ Below w.heap.size w w' := by
  have hx : 48 + (n : Int) / 10 = (x.toNat : Int) := by have := h.hi; omega
  have hy : 48 + (n : Int) % 10 = (y.toNat : Int) := by have := h.lo; omega
  have kc : (convert 33 9 (.slice (some ⟨w.heap.size, 0, none⟩) 2 2)).run Ybaf.prog (w.alloc (.cells #[.int .u8 (48 + (n : Int) / 10), .int .u8 (48 + (n : Int) % 10)] 5)) = .ok (.string ⟨#[x, y]⟩) (w.alloc (.cells #[.int .u8 (48 + (n : Int) / 10), .int .u8 (48 + (n : Int) % 10)] 5)) :=
    run_convert_bytes_back _ 33 9 5 ⟨w.heap.size, 0, none⟩ 2 [x, y] Ybaf.underlying33 Ybaf.underlying5 Ybaf.underlying9 (fun j hj => by
      rw [hx, hy]
      rw [show ((⟨w.heap.size, 0, none⟩ : Addr).add j) = ⟨w.heap.size, j, none⟩ from by simp [Addr.add, eq_comm], World.cell?_alloc_mark]
      match j, hj with
      | 0, _ => rfl
      | 1, _ => rfl)
  clear hx hy
  go_enter Ybaf.func5, Ybaf.ntmps5
  go_wp2_with fail
  go_ret
  exact ⟨rfl, (Below.refl _ w).alloc (Nat.le_refl _) _⟩

/-- The moments of a number of hours and minutes. -/
def mom (a b : Nat) : Int := (a : Int) * 3600000000000 + (b : Int) * 60000000000
def Fits (a b c d : Nat) : Prop := a < 24 ∧ b < 60 ∧ c < 24 ∧ d < 60 ∧ ¬ mom c d = mom a b

theorem says_two (a b : Nat) (ha : a < 100) (hb : b < 100) (x y z t : UInt8) (h : Two a x y) (k : Two b z t) :
    ((a < 24 ∧ b < 60) ∧ Says (txt x y 58 z t) (mom a b) true) ∨ (¬ (a < 24 ∧ b < 60) ∧ Says (txt x y 58 z t) 0 false) := by
  rcases says_form x y 58 z t rfl a b true (h.num ha) (k.num hb) (h.ok k ha hb) with ⟨⟨-, h1⟩, h2⟩ | ⟨h1, h2⟩
  · exact .inl ⟨h1, h2⟩
  · exact .inr ⟨fun h => h1 ⟨rfl, h⟩, h2⟩

theorem window_exact (F : Interp) (a b c d : Nat) (ha : a < 100) (hb : b < 100) (hc : c < 100) (hd : d < 100) (x1 x2 x3 x4 x5 x6 x7 x8 : UInt8) (h1 : Two a x1 x2) (h2 : Two b x3 x4) (h3 : Two c x5 x6) (h4 : Two d x7 x8) (w : World) (hF : F.answers w.tape) :
    Calls Ybaf.prog 6 #[.string ⟨#[x1, x2, 58, x3, x4, 45, x5, x6, 58, x7, x8]⟩] w fun e w' => ((Fits a b c d ∧ Opened e (mom a b) (if mom c d < mom a b then mom c d + 86400000000000 else mom c d)) ∨ (¬ Fits a b c d ∧ Refused e)) ∧ Below w.heap.size w w' := by
  rcases says_two a b ha hb x1 x2 x3 x4 h1 h2 with ⟨g1, S1⟩ | ⟨g1, S1⟩ <;> rcases says_two c d hc hd x5 x6 x7 x8 h3 h4 with ⟨g2, S2⟩ | ⟨g2, S2⟩ <;>
    refine (window_parts F _ rfl rfl _ _ (txt_left ..) (txt_right ..) _ _ _ _ S1 S2 w hF).mono ?_ <;>
    rintro e w' ⟨⟨⟨h1, h2, h3⟩, ho⟩ | ⟨h, hr⟩, hB⟩
  · exact ⟨.inl ⟨⟨g1.1, g1.2, g2.1, g2.2, h3⟩, ho⟩, hB⟩
  · exact ⟨.inr ⟨fun k => h ⟨rfl, rfl, k.2.2.2.2⟩, hr⟩, hB⟩
  · cases h2
  · exact ⟨.inr ⟨fun k => g2 ⟨k.2.2.1, k.2.2.2.1⟩, hr⟩, hB⟩
  · cases h1
  · exact ⟨.inr ⟨fun k => g1 ⟨k.1, k.2.1⟩, hr⟩, hB⟩
  · cases h1
  · exact ⟨.inr ⟨fun k => g1 ⟨k.1, k.2.1⟩, hr⟩, hB⟩

theorem window_exact' (F : Interp) (a b c d : Nat) (ha : a < 100) (hb : b < 100) (hc : c < 100) (hd : d < 100) (x1 x2 x3 x4 x5 x6 x7 x8 : UInt8) (h1 : Two a x1 x2) (h2 : Two b x3 x4) (h3 : Two c x5 x6) (h4 : Two d x7 x8) (w : World) (hF : F.answers w.tape) (S : ByteArray) (hS : S = ⟨#[x1, x2, 58, x3, x4, 45, x5, x6, 58, x7, x8]⟩) :
    Calls Ybaf.prog 6 #[.string S] w fun e w' => ((Fits a b c d ∧ Opened e (mom a b) (if mom c d < mom a b then mom c d + 86400000000000 else mom c d)) ∨ (¬ Fits a b c d ∧ Refused e)) ∧ Below w.heap.size w w' := by
  subst hS
  exact window_exact F a b c d ha hb hc hd x1 x2 x3 x4 x5 x6 x7 x8 h1 h2 h3 h4 w hF

set_option maxHeartbeats 1000000 in
set_option maxRecDepth 100000 in
theorem exact_calls (F : Interp) (h1 m1 h2 m2 a b c d : Nat) (l1 : h1 < 256) (l2 : m1 < 256) (l3 : h2 < 256) (l4 : m2 < 256) (ea : (h1 : Int) % 30 = a) (eb : (m1 : Int) % 70 = b) (ec : (h2 : Int) % 30 = c) (ed : (m2 : Int) % 70 = d)
    (x1 x2 x3 x4 x5 x6 x7 x8 : UInt8) (t1 : Two a x1 x2) (t2 : Two b x3 x4) (t3 : Two c x5 x6) (t4 : Two d x7 x8) (w : World) (hF : F.answers w.tape) :
    Calls Ybaf.prog 3 #[.int .u8 h1, .int .u8 m1, .int .u8 h2, .int .u8 m2] w fun e w' => e = .returned (.bool true) ∧ Below w.heap.size w w' := by
  have ha : a < 100 := by omega
  have hb : b < 100 := by omega
  have hc : c < 100 := by omega
  have hd : d < 100 := by omega
  go_enter Ybaf.func3, Ybaf.ntmps3
  go_wp2_with fail
  refine (two_calls a ha x1 x2 t1 w).mono ?_
  rintro e w1 ⟨rfl, hB1⟩
  go_wp2_with fail
  refine (two_calls b hb x3 x4 t2 w1).mono ?_
  rintro e w2 ⟨rfl, hB2'⟩
  have hB2 := hB1.trans (hB2'.mono hB1.size)
  clear hB1 hB2'
  go_wp2_with fail
  refine (two_calls c hc x5 x6 t3 w2).mono ?_
  rintro e w3 ⟨rfl, hB3'⟩
  have hB3 := hB2.trans (hB3'.mono hB2.size)
  clear hB2 hB3'
  go_wp2_with fail
  refine (two_calls d hd x7 x8 t4 w3).mono ?_
  rintro e w4 ⟨rfl, hB4'⟩
  have hB4 := hB3.trans (hB4'.mono hB3.size)
  clear hB3 hB4'
  go_wp2_with fail
  refine (window_exact' F a b c d ha hb hc hd x1 x2 x3 x4 x5 x6 x7 x8 t1 t2 t3 t4 w4 (by rw [hB4.tape]; exact hF) _ (by apply ByteArray.ext; simp [ByteArray.data_append])).mono ?_
  rintro e w5 ⟨hE, hB5'⟩
  have hB5 := hB4.trans (hB5'.mono hB4.size)
  clear hB4 hB5' t1 t2 t3 t4
  by_cases ga : a < 24
  · by_cases gb : b < 60
    · by_cases gc : c < 24
      · by_cases gd : d < 60
        · rcases hE with ⟨hf, hO⟩ | ⟨hf, ⟨g, rfl⟩⟩
          · have hm : ¬ mom c d = mom a b := hf.2.2.2.2
            by_cases hlt : mom c d < mom a b
            · have hO' : Opened e (mom a b) (mom c d + 86400000000000) := by rw [if_pos hlt] at hO; exact hO
              clear hO
              unfold mom at hm hlt hO'
              subst hO'
              clear hf
              have hm' : ((a : Int) * 3600000000000 + (b : Int) * 60000000000 == (c : Int) * 3600000000000 + (d : Int) * 60000000000) = false := by rw [beq_eq_false_iff_ne]; exact fun h => hm h.symm
              clear hm
              go_wp2_with fail
              go_ret
              exact ⟨rfl, hB5.alloc hB5.size _⟩
            · have hO' : Opened e (mom a b) (mom c d) := by rw [if_neg hlt] at hO; exact hO
              clear hO
              unfold mom at hm hlt hO'
              subst hO'
              clear hf
              have hm' : ((a : Int) * 3600000000000 + (b : Int) * 60000000000 == (c : Int) * 3600000000000 + (d : Int) * 60000000000) = false := by rw [beq_eq_false_iff_ne]; exact fun h => hm h.symm
              clear hm
              go_wp2_with fail
              go_ret
              exact ⟨rfl, hB5.alloc hB5.size _⟩
          · have hm : mom c d = mom a b := by
              by_cases h : mom c d = mom a b
              · exact h
              · exact absurd ⟨ga, gb, gc, gd, h⟩ hf
            unfold mom at hm
            go_wp2_with fail
            go_ret
            exact ⟨rfl, hB5.alloc hB5.size _⟩
        · rcases hE with ⟨⟨k1, k2, k3, k4, k5⟩, rfl⟩ | ⟨-, ⟨g, rfl⟩⟩
          · exact absurd k4 gd
          · go_wp2_with fail
            go_ret
            exact ⟨rfl, hB5.alloc hB5.size _⟩
      · rcases hE with ⟨⟨k1, k2, k3, k4, k5⟩, rfl⟩ | ⟨-, ⟨g, rfl⟩⟩
        · exact absurd k3 gc
        · go_wp2_with fail
          go_ret
          exact ⟨rfl, hB5.alloc hB5.size _⟩
    · rcases hE with ⟨⟨k1, k2, k3, k4, k5⟩, rfl⟩ | ⟨-, ⟨g, rfl⟩⟩
      · exact absurd k2 gb
      · go_wp2_with fail
        go_ret
        exact ⟨rfl, hB5.alloc hB5.size _⟩
  · rcases hE with ⟨⟨k1, k2, k3, k4, k5⟩, rfl⟩ | ⟨-, ⟨g, rfl⟩⟩
    · exact absurd k1 ga
    · go_wp2_with fail
      go_ret
      exact ⟨rfl, hB5.alloc hB5.size _⟩
end Go.Proofs.YbulkdpqFmt
