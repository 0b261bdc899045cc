/- WRITTEN BY PROGRAM (genko.py): mostCommon's loop. -/
import Derived.Test.YbulkbfkoCount
namespace Go.Proofs.Ybulkbfko
open Go.RowKit
attribute [local go_sem ↓] Go.wp_at_zero Go.wp_at_succ
set_option linter.unusedVariables false

/-- The lowest of the first k at which f is greatest. -/
def bestTo (f : Nat → Int) : Nat → Nat
  | 0 => 0
  | b + 1 => if f (bestTo f b) < f b then b else bestTo f b
theorem bestTo_lt (f : Nat → Int) (k : Nat) : bestTo f k ≤ k := by
  induction k with
  | zero => exact Nat.le_refl _
  | succ k ih =>
    simp only [bestTo]
    split <;> omega
theorem bestTo_lt' (f : Nat → Int) (k : Nat) (hk : 0 < k) : bestTo f k < k := by
  cases k with
  | zero => omega
  | succ k =>
    have := bestTo_lt f k
    simp only [bestTo]
    split <;> omega
theorem bestTo_one (f : Nat → Int) : bestTo f 1 = 0 := by simp [bestTo]
theorem bestTo_congr (f g : Nat → Int) (k : Nat) (h : ∀ j, j < k → f j = g j) : bestTo f k = bestTo g k := by
  induction k with
  | zero => rfl
  | succ k ih =>
    have e := ih (fun j hj => h j (by omega))
    simp only [bestTo]
    rw [e]
    rcases Nat.eq_zero_or_pos k with h0 | h0
    · subst h0
      simp [bestTo]
    · have hl := bestTo_lt' g k h0
      rw [h k (by omega), h (bestTo g k) (by omega)]

set_option maxRecDepth 1000000 in
set_option maxHeartbeats 4000000 in
theorem most_loop {c0 c1 c2 c5 c6 c7 c8 c12 c13 c14 c15 c16 c17 c18 c19 c20 c21 c22 c23 c24 : Value} (C : Nat) (f : Nat → Int) (w : World) (Q : Exit → Act → World → Prop)
    (hQ : ∀ (u5 u6 u11 u12 u13 u14 u15 u16 u17 u18 u19 u20 u21 u22 : Value) (w' : World), w' = w → Q (.exit 0) ⟨#[c0, c1, c2, (.pointer (some ⟨C, 0, none⟩)), (.int .i64 (bestTo f 256 : Int)), u5, u6, c7, c8, (.slice (some ⟨C, 0, none⟩) 256 286), (.int .i64 256), u11, u12, u13, u14, u15, u16, u17, u18, u19, u20, u21, u22, c23, c24], []⟩ w')
    (hr : Ints w C 22 286 f) :
    Code.wp Yba.prog ((Yba.f8.body.bind (findBlock 0)).getD .skip) Q ⟨#[c0, c1, c2, (.pointer (some ⟨C, 0, none⟩)), (.int .i64 0), c5, c6, c7, c8, (.slice (some ⟨C, 0, none⟩) 256 286), (.int .i64 256), (.int .i64 0), c12, c13, c14, c15, c16, c17, c18, c19, c20, c21, c22, c23, c24], []⟩ w := by
  refine outOf ?_
  conv => arg 2; whnf
  go_wp2
  go_loopw [4, 11] (fun m i wr => ∃ k : Nat, k ≤ 256 ∧ i = .int .i64 (k : Int) ∧ m = .int .i64 (bestTo f k : Int) ∧ wr = w) (fun _ i _ => 256 - (intOf i).toNat)
  case atStart => exact ⟨0, by omega, rfl, rfl, rfl⟩
  case round =>
    obtain ⟨k, hk, rfl, rfl, rfl⟩ := hrel
    by_cases hlt : k < 256
    · have hd0 : decide ((k : Int) < 256) = true := by simp; omega
      have hk0 : (k : Int) < 256 := by omega
      have v1 : IntKind.i64.wrap ((k : Int) + 1) = (k : Int) + 1 := IntWalk.i64_in _ ⟨by omega, by omega⟩
      have hb := bestTo_lt f k
      have hb1 : ((bestTo f k : Nat) : Int) < 286 := by omega
      have c1 := hr.cell (i := k) (by omega)
      have c2 := hr.cell (i := bestTo f k) (by omega)
      have HR := hide hr
      by_cases hg : f (bestTo f k) < f k
      · have e : bestTo f (k + 1) = k := by simp only [bestTo]; rw [if_pos hg]
        have hd1 : decide (f (bestTo f k) < f k) = true := by simp [hg]
        have HE := hide e
        clear hQ hr e
        generalize bestTo f k = m at *
        generalize f m = fm at *
        generalize f k = fk at *
        go_wp2
        go_roundw
        case rel => exact ⟨k + 1, by omega, by rw [Int.natCast_add]; rfl, by rw [HE.out], trivial⟩
        case measure => simp [intOf]; omega
      · have e : bestTo f (k + 1) = bestTo f k := by simp only [bestTo]; rw [if_neg hg]
        have hd1 : decide (f (bestTo f k) < f k) = false := by simp; omega
        have HE := hide e
        clear hQ hr e
        generalize bestTo f k = m at *
        generalize f m = fm at *
        generalize f k = fk at *
        go_wp2
        go_roundw
        case rel => exact ⟨k + 1, by omega, by rw [Int.natCast_add]; rfl, by rw [HE.out], trivial⟩
        case measure => simp [intOf]; omega
    · have hkn : k = 256 := by omega
      subst hkn
      have HQ := hide (hQ (w' := wr))
      clear hQ hr
      go_wp2
      exact HQ.out _ _ _ _ _ _ _ _ _ _ _ _ _ _ trivial

end Go.Proofs.Ybulkbfko
