/- WRITTEN BY PROGRAM (genko.py): LawS2822BMostCommon's second loop. -/
import Derived.Test.YbulkbfkoM2
namespace Go.Proofs.Ybulkbfko
open Go.RowKit
attribute [local go_sem ↓] Go.wp_at_zero Go.wp_at_succ
set_option linter.unusedVariables false

set_option maxRecDepth 1000000 in
set_option maxHeartbeats 4000000 in
theorem best_loop {c0 c1 c2 c4 c7 c8 c9 c10 c11 c12 c13 c14 c15 c16 c17 c18 c19 c20 c21 c22 c23 c24 c25 c26 c27 c28 c29 c30 c31 c32 c33 c34 c35 c36 c37 c38 c39 c40 : Value} (R : Nat) (f : Nat → Int) (w : World) (Q : Exit → Act → World → Prop)
    (hQ : ∀ (u6 u24 u25 u26 u27 u28 u29 u30 u31 u32 u33 u34 u35 : Value) (w' : World), Below w.heap.size w w' → Q (.exit 2) ⟨#[c0, c1, c2, (.pointer (some ⟨R, 0, none⟩)), c4, (.int .i64 (bestTo f 256 : Int)), u6, c7, c8, c9, c10, c11, c12, c13, c14, c15, c16, c17, c18, c19, c20, c21, c22, c23, u24, u25, u26, u27, u28, u29, u30, u31, u32, u33, u34, u35, c36, c37, c38, c39, c40], []⟩ w')
    (hr : Ints w R 29 256 f) :
    Code.wp Yba.prog ((Yba.f4.body.bind (findBlock 2)).getD .skip) Q ⟨#[c0, c1, c2, (.pointer (some ⟨R, 0, none⟩)), c4, (.int .i64 0), (.int .i64 1), c7, c8, c9, c10, c11, c12, c13, c14, c15, c16, c17, c18, c19, c20, c21, c22, c23, c24, c25, c26, c27, c28, c29, c30, c31, c32, c33, c34, c35, c36, c37, c38, c39, c40], []⟩ w := by
  refine outOf ?_
  conv => arg 2; whnf
  go_wp2
  go_loopw [5, 6] (fun m i wr => ∃ k : Nat, 1 ≤ k ∧ k ≤ 256 ∧ i = .int .i64 (k : Int) ∧ m = .int .i64 (bestTo f k : Int) ∧ Below w.heap.size w wr) (fun _ i _ => 256 - (intOf i).toNat)
  case atStart => exact ⟨1, by omega, by omega, rfl, by rw [bestTo_one]; rfl, Below.refl _ _⟩
  case round =>
    obtain ⟨k, hk1, hk, rfl, rfl, hb0⟩ := hrel
    by_cases hlt : k < 256
    · have hd0 : decide ((k : Int) < 256) = true := by simp; omega
      have hk0 : (k : Int) < 256 := by omega
      have v1 : IntKind.i64.wrap ((k : Int) + 1) = (k : Int) + 1 := IntWalk.i64_in _ ⟨by omega, by omega⟩
      have hb := bestTo_lt f k
      have hb1 : ((bestTo f k : Nat) : Int) < 256 := by omega
      have c1 := (hb0.cell (p := ⟨R, k, none⟩) hr.lt).trans (hr.cell (i := k) (by omega))
      have c2 := (hb0.cell (p := ⟨R, bestTo f k, none⟩) hr.lt).trans (hr.cell (i := bestTo f k) (by omega))
      have HB := hide hb0
      clear hb0
      by_cases hg : f (bestTo f k) < f k
      · have e : bestTo f (k + 1) = k := by simp only [bestTo]; rw [if_pos hg]
        have hd1 : decide (f (bestTo f k) < f k) = true := by simp [hg]
        have HE := hide e
        clear hQ hr e
        generalize bestTo f k = m at *
        generalize f m = fm at *
        generalize f k = fk at *
        go_wp2
        go_quiet (fail)
        go_wp2
        go_roundw
        case rel => exact ⟨k + 1, by omega, by omega, by rw [Int.natCast_add]; rfl, by rw [HE.out], below_drewN HB.out _⟩
        case measure => simp [intOf]; omega
      · have e : bestTo f (k + 1) = bestTo f k := by simp only [bestTo]; rw [if_neg hg]
        have hd1 : decide (f (bestTo f k) < f k) = false := by simp; omega
        have HE := hide e
        clear hQ hr e
        generalize bestTo f k = m at *
        generalize f m = fm at *
        generalize f k = fk at *
        go_wp2
        go_quiet (fail)
        go_wp2
        go_roundw
        case rel => exact ⟨k + 1, by omega, by omega, by rw [Int.natCast_add]; rfl, by rw [HE.out], below_drewN HB.out _⟩
        case measure => simp [intOf]; omega
    · have hkn : k = 256 := by omega
      subst hkn
      have HQ := hide (hQ (w' := wr))
      have HB := hide hb0
      clear hQ hr hb0
      go_wp2
      exact HQ.out _ _ _ _ _ _ _ _ _ _ _ _ _ HB.out

end Go.Proofs.Ybulkbfko
