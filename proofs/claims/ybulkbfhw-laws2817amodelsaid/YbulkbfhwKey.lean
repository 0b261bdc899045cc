/- zzs2817akey: the last start that is not beyond j. -/
import Derived.Test.YbulkbfhwKept
import Derived.WalkKit
import Derived.WalkSpells
import Derived.WalkLawsBesides
import Derived.Deep.OwnRows
namespace Go.Proofs.Ybulkbfhw
open Go.RowKit
set_option linter.unusedVariables false

set_option maxHeartbeats 400000 in
theorem zkey_any (Sb K : Nat) (st : Nat → Int) (j : Int) (w : World) (hK : K ≤ 2000) (hst : ∀ i, i < K → w.cell? ⟨Sb, i, none⟩ = some (.int .i32 (st i))) :
    Calls Yba.prog 7 #[.slice (some ⟨Sb, 0, none⟩) K K, .int .i32 j] w fun e w' => e = .returned (.int .i64 (lastLE st j K)) ∧ w = w' := by
  go_enter Yba.func7, Yba.ntmps7
  go_wp2
  go_loop [5, 6] (fun v i => ∃ k : Nat, k ≤ K ∧ i = .int .i64 k ∧ v = .int .i64 (lastLE st j k)) (fun _ i => K - (intOf i).toNat)
  case atStart => exact ⟨0, by omega, rfl, rfl⟩
  case round =>
    obtain ⟨k, hk, rfl, rfl⟩ := hrel
    by_cases hlt : k < K
    · have hc := hst k hlt
      have hs : lastLE st j (k + 1) = if st k ≤ j then (k : Int) else lastLE st j k := rfl
      generalize lastLE st j k = y at hs ⊢
      generalize st k = x at hc hs
      clear hst
      by_cases hx : x ≤ j
      · rw [if_pos hx] at hs
        go_wp2
        go_round
        case rel => exact ⟨k + 1, by omega, by go_num, by rw [hs]⟩
        case measure => simp [intOf]; omega
      · rw [if_neg hx] at hs
        have hx' : ¬ x ≤ j := hx
        go_wp2
        go_round
        case rel => exact ⟨k + 1, by omega, by go_num, by rw [hs]⟩
        case measure => simp [intOf]; omega
    · obtain rfl : k = K := by omega
      go_wp2
      go_ret
      exact ⟨rfl, rfl⟩

end Go.Proofs.Ybulkbfhw
