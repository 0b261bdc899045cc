/-
  What (*simplex).begin's first loop lays into a = [N | I]: two rows of the list in use (TwoRows); sides of the box (BoxCorner).
-/
import Derived.Test.YbulkbfeqKept
namespace Go.Proofs.Ybulkbfeq
open Go Go.RowKit
attribute [local go_sem] run_store_float

theorem set_upto {α : Type} (F : α → Value) (k i : Nat) (v : α) (T B : Nat → α) (h : v = T k) : (if i = k then F v else F (if i < k then T i else B i)) = F (if i < k + 1 then T i else B i) := by
  by_cases e : i = k
  · subst e; rw [if_pos rfl, if_pos (by omega), h]
  · rw [if_neg e]
    have : (i < k) = (i < k + 1) := propext (by omega)
    simp only [this]

/-- Two dimensions, the rows T 0, T 1 of the list Rw: the first k rows of a. -/
def fillT (T Rw : Nat → Nat) (k i : Nat) : Nat :=
  if i / 4 < k then (if i % 4 < 2 then Rw (T (i / 4) * 2 + i % 4) else if i % 4 = 2 + i / 4 then 4607182418800017408 else 0) else 0
theorem fillT_zero (T Rw : Nat → Nat) (i : Nat) : fillT T Rw 0 i = 0 := by simp [fillT]
theorem fillT_step (T Rw : Nat → Nat) (k i : Nat) (hk : k < 2) :
    (if i = k * 2 * 2 + (2 + k) then 4607182418800017408 else if k * 2 * 2 ≤ i ∧ i < k * 2 * 2 + 2 then Rw (T k * 2 + (i - k * 2 * 2)) else fillT T Rw k i) = fillT T Rw (k + 1) i := by
  by_cases e : i / 4 = k
  · have h : i = 4 * k + i % 4 := by omega
    by_cases e1 : i = k * 2 * 2 + (2 + k)
    · rw [if_pos e1]
      simp only [fillT, e]
      rw [if_pos (by omega), if_neg (by omega), if_pos (by omega)]
    · rw [if_neg e1]
      by_cases e2 : i % 4 < 2
      · rw [if_pos (by omega)]
        simp only [fillT, e]
        rw [if_pos (by omega), if_pos e2]
        congr 1; omega
      · rw [if_neg (by omega)]
        simp only [fillT, e]
        rw [if_neg (by omega), if_pos (by omega), if_neg e2, if_neg (by omega)]
  · rw [if_neg (by omega), if_neg (by omega)]
    have h : (i / 4 < k) = (i / 4 < k + 1) := propext (by omega)
    simp only [fillT, h]
/-- The law's own matrix: row T r of q, the first k rows. -/
def nmF (T q : Nat → Nat) (k i : Nat) : Nat := if i / 2 < k then q (T (i / 2) * 2 + i % 2) else 0
theorem nmF_step (T q : Nat → Nat) (k i : Nat) : (if i = k * 2 + 1 then q (T k * 2 + 1) else if i = k * 2 then q (T k * 2) else nmF T q k i) = nmF T q (k + 1) i := by
  by_cases e1 : i = k * 2 + 1
  · rw [if_pos e1]
    have h1 : i / 2 = k := by omega
    have h2 : i % 2 = 1 := by omega
    simp only [nmF, h1, h2]
    rw [if_pos (by omega)]
  · rw [if_neg e1]
    by_cases e2 : i = k * 2
    · rw [if_pos e2]
      have h1 : i / 2 = k := by omega
      have h2 : i % 2 = 0 := by omega
      simp only [nmF, h1, h2]
      rw [if_pos (by omega), Nat.add_zero]
    · rw [if_neg e2]
      have h : (i / 2 < k) = (i / 2 < k + 1) := propext (by omega)
      simp only [nmF, h]

/-- The law's check at row r, column c of nm * inv - 1. -/
def okChk (nm I : Nat → Nat) (r c : Nat) : Prop :=
  (Ieee.double.mul (nm (r * 2)) (I c)).isSome = true ∧ (Ieee.double.mul (nm (r * 2 + 1)) (I (2 + c))).isSome = true ∧
  (Ieee.double.add (fmul (nm (r * 2)) (I c)) (fmul (nm (r * 2 + 1)) (I (2 + c)))).isSome = true ∧
  (r = c → (Ieee.double.sub (fadd (fmul (nm (r * 2)) (I c)) (fmul (nm (r * 2 + 1)) (I (2 + c)))) 4607182418800017408).isSome = true ∧
    flt (fabs (fsub (fadd (fmul (nm (r * 2)) (I c)) (fmul (nm (r * 2 + 1)) (I (2 + c)))) 4607182418800017408)) 4472406533629990549 = true) ∧
  (r ≠ c → flt (fabs (fadd (fmul (nm (r * 2)) (I c)) (fmul (nm (r * 2 + 1)) (I (2 + c))))) 4472406533629990549 = true)

end Go.Proofs.Ybulkbfeq
