/-
  Plain numbers: the digits of an odometer of m binary places. No Go.
-/
namespace Go.Proofs.Ybulkdpc.Bits

/-- The digit at place j (from the left, of m) of k. -/
def bit (m k j : Nat) : Nat := k / 2 ^ (m - 1 - j) % 2

theorem bit_lt (m k j : Nat) : bit m k j < 2 := Nat.mod_lt _ (by omega)

/-- In the middle of a step: from place t on all is 0 already. -/
def mid (m k t j : Nat) : Nat := if j < t then bit m k j else 0

/-- The places from t on were all 1. -/
def Ones (m k t : Nat) : Prop := k % 2 ^ (m - t) + 1 = 2 ^ (m - t)

theorem ones_start (m k : Nat) : Ones m k m := by simp [Ones, Nat.mod_one]

theorem ones_step (m k t : Nat) (h : Ones m k (t + 1)) (ht : t < m) (hb : bit m k t = 1) : Ones m k t := by
  unfold Ones bit at *
  have e : m - t = (m - (t + 1)) + 1 := by omega
  have e2 : m - 1 - t = m - (t + 1) := by omega
  rw [e2] at hb
  rw [e, Nat.pow_succ, Nat.mod_mul, hb]
  omega

theorem ones_all (m k : Nat) (h : Ones m k 0) (hk : k < 2 ^ m) : k + 1 = 2 ^ m := by
  unfold Ones at h
  rw [Nat.sub_zero, Nat.mod_eq_of_lt hk] at h
  exact h

/-- Where the place t holds 0 and all behind it 1: k is q * 2^(e+1) + 2^e - 1. -/
theorem split_at (m k t : Nat) (h : Ones m k (t + 1)) (ht : t < m) (hb : bit m k t = 0) :
    ∃ q, k + 1 = q * 2 ^ (m - t) + 2 ^ (m - (t + 1)) ∧ k / 2 ^ (m - t) = q := by
  unfold Ones bit at *
  have e : m - t = (m - (t + 1)) + 1 := by omega
  have e2 : m - 1 - t = m - (t + 1) := by omega
  rw [e2] at hb
  refine ⟨k / 2 ^ (m - t), ?_, rfl⟩
  have hd := Nat.div_add_mod k (2 ^ (m - t))
  rw [e, Nat.pow_succ, Nat.mod_mul, hb] at hd
  rw [e, Nat.pow_succ]
  rw [Nat.mul_comm (k / _)]
  omega

theorem step_lt (m k t : Nat) (h : Ones m k (t + 1)) (ht : t < m) (hb : bit m k t = 0) (hk : k < 2 ^ m) : k + 1 < 2 ^ m := by
  obtain ⟨q, h1, h2⟩ := split_at m k t h ht hb
  have hq : q < 2 ^ t := by
    rw [← h2]
    apply Nat.div_lt_of_lt_mul
    rw [← Nat.pow_add, show m - t + t = m by omega]; exact hk
  have e : m - t = (m - (t + 1)) + 1 := by omega
  have hp : 0 < 2 ^ (m - (t + 1)) := Nat.pow_pos (by omega)
  have hm : (q + 1) * 2 ^ (m - t) ≤ 2 ^ t * 2 ^ (m - t) := Nat.mul_le_mul_right _ hq
  rw [← Nat.pow_add, show t + (m - t) = m by omega, Nat.add_mul, Nat.one_mul] at hm
  rw [e, Nat.pow_succ] at h1 hm
  omega

theorem step_high (m k t j : Nat) (h : Ones m k (t + 1)) (ht : t < m) (hb : bit m k t = 0) (hj : j < t) : bit m (k + 1) j = bit m k j := by
  obtain ⟨q, h1, h2⟩ := split_at m k t h ht hb
  unfold bit
  have e : m - t = (m - (t + 1)) + 1 := by omega
  have hp : 0 < 2 ^ (m - (t + 1)) := Nat.pow_pos (by omega)
  have hpt : 0 < 2 ^ (m - t) := Nat.pow_pos (by omega)
  have hq1 : (k + 1) / 2 ^ (m - t) = q := by
    rw [h1, Nat.add_comm, Nat.add_mul_div_right _ _ hpt, Nat.div_eq_of_lt (by rw [e, Nat.pow_succ]; omega)]
    omega
  have e3 : m - 1 - j = (m - t) + (t - 1 - j) := by omega
  rw [e3, Nat.pow_add, ← Nat.div_div_eq_div_mul, ← Nat.div_div_eq_div_mul, hq1, h2]

theorem step_here (m k t : Nat) (h : Ones m k (t + 1)) (ht : t < m) (hb : bit m k t = 0) : bit m (k + 1) t = 1 := by
  obtain ⟨q, h1, _⟩ := split_at m k t h ht hb
  unfold bit
  have e : m - t = (m - (t + 1)) + 1 := by omega
  have e2 : m - 1 - t = m - (t + 1) := by omega
  have hp : 0 < 2 ^ (m - (t + 1)) := Nat.pow_pos (by omega)
  rw [e2, h1, e, Nat.pow_succ, ← Nat.mul_assoc, Nat.mul_right_comm, Nat.add_comm, Nat.add_mul_div_right _ _ hp, Nat.div_self hp]
  omega

theorem step_low (m k t j : Nat) (h : Ones m k (t + 1)) (ht : t < m) (hb : bit m k t = 0) (hj : t < j) (hjm : j < m) : bit m (k + 1) j = 0 := by
  obtain ⟨q, h1, _⟩ := split_at m k t h ht hb
  unfold bit
  have e : m - t = (m - 1 - j) + 1 + (j - t) := by omega
  have e2 : m - (t + 1) = (m - 1 - j) + 1 + (j - t - 1) := by omega
  have hp : 0 < 2 ^ (m - 1 - j) := Nat.pow_pos (by omega)
  have h3 : k + 1 = ((q * 2 ^ (j - t) + 2 ^ (j - t - 1)) * 2) * 2 ^ (m - 1 - j) := by
    rw [h1, e, e2]
    simp only [Nat.pow_add, Nat.pow_one, Nat.add_mul]
    congr 1
    · rw [Nat.mul_comm (2 ^ (m - 1 - j)) 2, Nat.mul_comm (2 * 2 ^ (m - 1 - j)), ← Nat.mul_assoc, ← Nat.mul_assoc]
    · rw [Nat.mul_comm (2 ^ (m - 1 - j)) 2, Nat.mul_comm (2 * 2 ^ (m - 1 - j)), ← Nat.mul_assoc]
  rw [h3, Nat.mul_div_cancel _ hp]
  omega

/-- THE STEP: the places behind t cleared, the place t raised: k + 1. -/
theorem step_digits (m k t j : Nat) (h : Ones m k (t + 1)) (ht : t < m) (hb : bit m k t = 0) (hjm : j < m) :
    bit m (k + 1) j = if j = t then 1 else mid m k (t + 1) j := by
  unfold mid
  by_cases h1 : j = t
  · subst h1; simp [step_here m k j h ht hb]
  · by_cases h2 : j < t
    · rw [if_neg h1, if_pos (by omega), step_high m k t j h ht hb h2]
    · rw [if_neg h1, if_neg (by omega), step_low m k t j h ht hb (by omega) hjm]

theorem bit_zero (m j : Nat) : bit m 0 j = 0 := by simp [bit]

/-- A number read off its digits. -/
def num (l : List Nat) : Nat := l.foldl (fun acc d => 2 * acc + d) 0

theorem num_part (m k t : Nat) (ht : t ≤ m) (hk : k < 2 ^ m) : num ((List.range t).map (bit m k)) = k / 2 ^ (m - t) := by
  unfold num
  induction t with
  | zero => simp [Nat.div_eq_of_lt hk]
  | succ t ih =>
    rw [List.range_succ, List.map_append, List.foldl_append, ih (by omega)]
    simp only [List.map_cons, List.map_nil, List.foldl_cons, List.foldl_nil]
    have e : m - t = (m - (t + 1)) + 1 := by omega
    have e2 : m - 1 - t = m - (t + 1) := by omega
    unfold bit
    rw [e, e2, Nat.pow_succ, ← Nat.div_div_eq_div_mul]
    omega

theorem num_digits (m k : Nat) (hk : k < 2 ^ m) : num ((List.range m).map (bit m k)) = k := by
  rw [num_part m k m (Nat.le_refl _) hk]; simp

end Go.Proofs.Ybulkdpc.Bits
