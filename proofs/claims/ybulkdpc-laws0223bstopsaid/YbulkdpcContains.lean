import Derived.Test.YbulkdpcRepeat
namespace Go.Proofs.Ybulkdpc
open Go.RowKit
set_option maxHeartbeats 400000 in
theorem below_one (r : Int) (w : World) :
    Calls Yba.prog 22 #[.int .i64 r] w fun e w' => e = .returned (.bool (decide (r < 1))) ∧ w' = w := by
  go_enter Yba.func22, Yba.ntmps22
  go_wp2
  go_ret
  exact ⟨rfl, rfl⟩
set_option maxHeartbeats 400000 in
theorem index_twos (m : Nat) (hm : m ≤ 10) (g : Nat) (w : World) (hg : ∀ j, j < m → w.cell? ⟨g, j, none⟩ = some (.int .i64 2)) :
    Calls Yba.prog 25 #[.slice (some ⟨g, 0, none⟩) m m, .func (.func 22) #[] #[]] w fun e w' => e = .returned (.int .i64 (-1)) ∧ w' = w := by
  go_enter Yba.func25, Yba.ntmps25
  go_wp2
  go_loop [8] (fun i => ∃ k : Nat, k ≤ m ∧ i = .int .i64 k) (fun i => m - (intOf i).toNat)
  case atStart => exact ⟨0, Nat.zero_le _, rfl⟩
  case round =>
    obtain ⟨k, hk, rfl⟩ := hrel
    by_cases hlt : k < m
    · have hc := hg k hlt
      go_wp2_with (go_at_call 22; refine (below_one _ _).mono ?_; rintro e w' ⟨rfl, rfl⟩)
      go_round
      case rel => exact ⟨k + 1, by omega, by go_num⟩
      case measure => simp [intOf]; omega
    · go_wp2
      go_ret
      exact ⟨rfl, rfl⟩
set_option maxHeartbeats 400000 in
theorem contains_twos (m : Nat) (hm : m ≤ 10) (g : Nat) (w : World) (hg : ∀ j, j < m → w.cell? ⟨g, j, none⟩ = some (.int .i64 2)) :
    Calls Yba.prog 21 #[.slice (some ⟨g, 0, none⟩) m m, .func (.func 22) #[] #[]] w fun e w' => e = .returned (.bool false) ∧ w' = w := by
  go_enter Yba.func21, Yba.ntmps21
  go_wp2_with (go_at_call 25; refine (index_twos m hm g _ hg).mono ?_; rintro e w' ⟨rfl, rfl⟩)
  go_ret
  exact ⟨rfl, rfl⟩
end Go.Proofs.Ybulkdpc
