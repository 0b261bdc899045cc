/- WRITTEN BY PROGRAM (genko.py): LawS2822BAdds's second loop. -/
import Derived.Test.YbulkbfkoA1
namespace Go.Proofs.Ybulkbfko
open Go.RowKit
attribute [local go_sem ↓] Go.wp_at_zero Go.wp_at_succ
set_option linter.unusedVariables false

set_option maxRecDepth 1000000 in
set_option maxHeartbeats 4000000 in
theorem same_loop {c0 c1 c2 c3 c4 c5 c8 c10 c11 c12 c13 c14 c15 c16 c17 c18 c19 c20 c21 c22 c23 c24 c25 c26 c27 c28 c29 c30 c31 c32 c33 c34 c35 c36 c37 c38 c39 c40 c41 c42 c43 c44 c45 c46 : Value} (G V : Nat) (f : Nat → Int) (w : World) (Q : Exit → Act → World → Prop)
    (hQ : ∀ (u4 u9 u33 u34 u35 u36 u37 u38 u39 u40 u41 u42 u43 : Value) (w' : World), Below w.heap.size w w' → Q (.exit 2) ⟨#[c0, c1, c2, c3, u4, c5, (.pointer (some ⟨G, 0, none⟩)), (.pointer (some ⟨V, 0, none⟩)), c8, u9, c10, c11, c12, c13, c14, c15, c16, c17, c18, c19, c20, c21, c22, c23, c24, c25, c26, c27, c28, c29, c30, c31, c32, u33, u34, u35, u36, u37, u38, u39, u40, u41, u42, u43, c44, c45, c46], []⟩ w')
    (hg : Ints w G 22 286 f) (hv : Ints w V 22 286 f) :
    Code.wp Yba.prog ((Yba.f3.body.bind (findBlock 2)).getD .skip) Q ⟨#[c0, c1, c2, c3, c4, c5, (.pointer (some ⟨G, 0, none⟩)), (.pointer (some ⟨V, 0, none⟩)), c8, (.int .i64 0), c10, c11, c12, c13, c14, c15, c16, c17, c18, c19, c20, c21, c22, c23, c24, c25, c26, c27, c28, c29, c30, c31, c32, c33, c34, c35, c36, c37, c38, c39, c40, c41, c42, c43, c44, c45, c46], []⟩ w := by
  refine outOf ?_
  conv => arg 2; whnf
  go_wp2
  go_loopw [9] (fun i wr => ∃ k : Nat, k ≤ 286 ∧ i = .int .i64 (k : Int) ∧ Below w.heap.size w wr) (fun i _ => 286 - (intOf i).toNat)
  case atStart => exact ⟨0, by omega, rfl, Below.refl _ _⟩
  case round =>
    obtain ⟨k, hk, rfl, hb0⟩ := hrel
    by_cases hlt : k < 286
    · have hd0 : decide ((k : Int) < 286) = true := by simp; omega
      have hk0 : (k : Int) < 286 := by omega
      have v1 : IntKind.i64.wrap ((k : Int) + 1) = (k : Int) + 1 := IntWalk.i64_in _ ⟨by omega, by omega⟩
      have c1 := (hb0.cell (p := ⟨G, k, none⟩) hg.lt).trans (hg.cell (i := k) (by omega))
      have c2 := (hb0.cell (p := ⟨V, k, none⟩) hv.lt).trans (hv.cell (i := k) (by omega))
      have HB := hide hb0
      clear hb0 hQ hg hv
      generalize f k = fk at *
      go_wp2
      go_quiet (fail)
      go_wp2
      go_roundw
      case rel => exact ⟨k + 1, by omega, by rw [Int.natCast_add]; rfl, below_drewN HB.out _⟩
      case measure => simp [intOf]; omega
    · have hkn : k = 286 := by omega
      subst hkn
      have HQ := hide (hQ (w' := wr))
      have HB := hide hb0
      clear hQ hb0 hg hv
      go_wp2
      exact HQ.out _ _ _ _ _ _ _ _ _ _ _ _ _ HB.out

end Go.Proofs.Ybulkbfko
