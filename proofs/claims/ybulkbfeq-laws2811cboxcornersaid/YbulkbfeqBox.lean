/-
  What (*simplex).begin's first loop lays into a = [N | I] where every constraint in use is a side of the box.
-/
import Derived.Test.YbulkbfeqFill
namespace Go.Proofs.Ybulkbfeq
open Go Go.RowKit
attribute [local go_sem] run_store_float

/-! ### Sides of the box in use -/
/-- Sides of the box: constraint C r is the upper (even) or the lower (odd) side of axis C r / 2: the first k rows of a. -/
def fillB (D : Nat) (C : Nat → Nat) (k i : Nat) : Nat :=
  if i / (2 * D) < k then (if i % (2 * D) = D + i / (2 * D) then 4607182418800017408 else if i % (2 * D) = C (i / (2 * D)) / 2 then (if C (i / (2 * D)) % 2 = 0 then 4607182418800017408 else 13830554455654793216) else 0) else 0
theorem fillB_zero (D : Nat) (C : Nat → Nat) (i : Nat) : fillB D C 0 i = 0 := by simp [fillB]
theorem fillB_step (D : Nat) (C : Nat → Nat) (k i : Nat) (hk : k < D) (hC : C k < 2 * D) :
    (if i = k * 2 * D + (D + k) then 4607182418800017408 else if i = k * 2 * D + C k / 2 then (if C k % 2 = 0 then 4607182418800017408 else 13830554455654793216) else fillB D C k i) = fillB D C (k + 1) i := by
  have hp := place_eq D i
  have hml := Nat.mod_lt i (show 2 * D > 0 by omega)
  by_cases e : i / (2 * D) = k
  · rw [e] at hp
    by_cases e1 : i % (2 * D) = D + k
    · rw [if_pos (by omega)]
      simp only [fillB, e]
      rw [if_pos (by omega), if_pos e1]
    · rw [if_neg (by omega)]
      by_cases e2 : i % (2 * D) = C k / 2
      · rw [if_pos (by omega)]
        simp only [fillB, e]
        rw [if_pos (show k < k + 1 by omega), if_neg e1, if_pos e2]
      · rw [if_neg (by omega)]
        simp only [fillB, e]
        rw [if_neg (show ¬ k < k by omega), if_pos (show k < k + 1 by omega), if_neg e1, if_neg e2]
  · have n1 : i ≠ k * 2 * D + (D + k) := by
      intro h
      apply e
      rw [h]
      exact place_div D k (D + k) (by omega)
    have n2 : i ≠ k * 2 * D + C k / 2 := by
      intro h
      apply e
      rw [h]
      exact place_div D k (C k / 2) (by omega)
    rw [if_neg n1, if_neg n2]
    have h : (i / (2 * D) < k) = (i / (2 * D) < k + 1) := propext (by omega)
    simp only [fillB, h]

end Go.Proofs.Ybulkbfeq
