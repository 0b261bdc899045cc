/- WRITTEN BY PROGRAM (genko.py): the loop of countBytes that adds the four tables up. -/
import Derived.Test.YbulkbfkoC2
namespace Go.Proofs.Ybulkbfko
open Go.RowKit
attribute [local go_sem ↓] Go.wp_at_zero Go.wp_at_succ
set_option linter.unusedVariables false

/-- The counts behind the first k bytes' codes. -/
def added (c0 T : Nat → Int) (k j : Nat) : Int := if j < k then IntKind.i64.wrap (c0 j + sum4 T j) else c0 j
theorem added_step (c0 T : Nat → Int) (k j : Nat) : upd (added c0 T k) k (IntKind.i64.wrap (c0 k + sum4 T k)) j = added c0 T (k + 1) j := by
  unfold upd added
  by_cases e : j = k
  · subst e
    rw [if_pos rfl, if_pos (by omega)]
  · rw [if_neg e]
    by_cases l : j < k
    · rw [if_pos l, if_pos (by omega)]
    · rw [if_neg l, if_neg (by omega)]

set_option maxRecDepth 1000000 in
set_option maxHeartbeats 4000000 in
theorem add_loop {c1 c2 c3 c5 c6 c7 c8 c9 c10 c11 c12 c13 c14 c15 c16 c17 c18 c19 c20 c21 c22 c23 c24 c25 c26 c27 c28 c29 c30 c31 c32 c33 c34 c35 c36 c37 c38 c39 c40 c41 c42 c43 c44 c45 c46 c47 c48 c49 c50 c51 c52 c53 c54 c55 c56 c57 c58 c59 c60 c61 c62 c63 c64 c65 c66 c67 c68 c69 c70 c71 c72 c74 c75 c76 c77 c78 c79 c80 c81 c82 c83 c84 c85 c86 c87 c88 c89 c90 c91 c92 c93 c94 c95 c96 c97 c98 c99 c100 c101 c102 c103 : Value} (C R n : Nat) (x : Nat → Nat) (c0 T : Nat → Int) (w : World) (Q : Exit → Act → World → Prop)
    (hQ : ∀ (u6 u73 u74 u75 u76 u77 u78 u79 u80 u81 u82 u83 u84 u85 u86 u87 u88 u89 u90 u91 u92 u93 u94 u95 u96 u97 u98 u99 u100 u101 u102 u103 : Value) (w' : World), Ints w' C 22 286 (added c0 T 256) ∧ But w.heap.size C w w' → Q (.exit 4) ⟨#[(.pointer (some ⟨C, 0, none⟩)), c1, c2, c3, (.pointer (some ⟨R, 0, none⟩)), c5, u6, c7, c8, c9, c10, c11, c12, c13, c14, c15, c16, c17, c18, c19, c20, c21, c22, c23, c24, c25, c26, c27, c28, c29, c30, c31, c32, c33, c34, c35, c36, c37, c38, c39, c40, c41, c42, c43, c44, c45, c46, c47, c48, c49, c50, c51, c52, c53, c54, c55, c56, c57, c58, c59, c60, c61, c62, c63, c64, c65, c66, c67, c68, c69, c70, c71, c72, u73, u74, u75, u76, u77, u78, u79, u80, u81, u82, u83, u84, u85, u86, u87, u88, u89, u90, u91, u92, u93, u94, u95, u96, u97, u98, u99, u100, u101, u102, u103], []⟩ w')
    (hn : n ≤ 65536) (hCR : C ≠ R) (hT : Tab x n T) (hr : Ints w R 32 1024 T) (hC : Ints w C 22 286 c0) :
    Code.wp Yba.prog ((Yba.f6.body.bind (findBlock 4)).getD .skip) Q ⟨#[(.pointer (some ⟨C, 0, none⟩)), c1, c2, c3, (.pointer (some ⟨R, 0, none⟩)), c5, c6, c7, c8, c9, c10, c11, c12, c13, c14, c15, c16, c17, c18, c19, c20, c21, c22, c23, c24, c25, c26, c27, c28, c29, c30, c31, c32, c33, c34, c35, c36, c37, c38, c39, c40, c41, c42, c43, c44, c45, c46, c47, c48, c49, c50, c51, c52, c53, c54, c55, c56, c57, c58, c59, c60, c61, c62, c63, c64, c65, c66, c67, c68, c69, c70, c71, c72, (.int .i64 0), c74, c75, c76, c77, c78, c79, c80, c81, c82, c83, c84, c85, c86, c87, c88, c89, c90, c91, c92, c93, c94, c95, c96, c97, c98, c99, c100, c101, c102, c103], []⟩ w := by
  refine outOf ?_
  conv => arg 2; whnf
  go_wp2
  go_loopw [73] (fun i wr => ∃ k : Nat, k ≤ 256 ∧ i = .int .i64 (k : Int) ∧ Ints wr C 22 286 (added c0 T k) ∧ But w.heap.size C w wr) (fun i _ => 256 - (intOf i).toNat)
  case atStart => exact ⟨0, by omega, rfl, hC.congr (fun i _ => by simp [added]), But.refl _ _ _⟩
  case round =>
    obtain ⟨k, hk, rfl, hR, hK⟩ := hrel
    by_cases hlt : k < 256
    · have hd0 : decide ((k : Int) < 256) = true := by simp; omega
      have hk0 : (k : Int) < 256 := by omega
      have hk1 : (k : Int) < 286 := by omega
      have v1 : IntKind.i64.wrap ((k : Int) + 1) = (k : Int) + 1 := IntWalk.i64_in _ ⟨by omega, by omega⟩
      have hrl := hr.lt
      have hRC : R ≠ C := fun h => hCR h.symm
      have d0 := (hK.cell (p := ⟨R, k, none⟩) hrl hRC).trans (hr.cell (i := k) (by omega))
      have d1 := (hK.cell (p := ⟨R, 256 + k, none⟩) hrl hRC).trans (hr.cell (i := 256 + k) (by omega))
      have d2 := (hK.cell (p := ⟨R, 512 + k, none⟩) hrl hRC).trans (hr.cell (i := 512 + k) (by omega))
      have d3 := (hK.cell (p := ⟨R, 768 + k, none⟩) hrl hRC).trans (hr.cell (i := 768 + k) (by omega))
      have m0 : wr.cell? ⟨C, k, none⟩ = some (.int .i64 (c0 k)) := by
        have := hR.cell (i := k) (by omega)
        rw [this]
        simp [added]
      have f0 := hR.frozen k
      have g0 := hT.1 k
      have g1 := hT.1 (256 + k)
      have g2 := hT.1 (512 + k)
      have g3 := hT.1 (768 + k)
      have z1 : IntKind.i64.wrap (T k + T (256 + k)) = T k + T (256 + k) := IntWalk.i64_in _ ⟨by omega, by omega⟩
      have z2 : IntKind.i64.wrap (T k + T (256 + k) + T (512 + k)) = T k + T (256 + k) + T (512 + k) := IntWalk.i64_in _ ⟨by omega, by omega⟩
      have z3 : IntKind.i64.wrap (T k + T (256 + k) + T (512 + k) + T (768 + k)) = T k + T (256 + k) + T (512 + k) + T (768 + k) := IntWalk.i64_in _ ⟨by omega, by omega⟩
      have HS := hide (show sum4 T k = T k + T (256 + k) + T (512 + k) + T (768 + k) from rfl)
      have HK := hide hK
      have HR := hide hR
      generalize T k = ta at *
      generalize T (256 + k) = tb at *
      generalize T (512 + k) = tc at *
      generalize T (768 + k) = td at *
      clear hQ hT hK hR hr hC
      generalize hq : c0 k = ck at *
      go_wp2
      go_region
      all_goals
        go_wp2
        go_roundw
        case rel =>
          refine ⟨k + 1, by omega, by rw [Int.natCast_add]; rfl, ?_, (HK.out.trans (But.of_kept ((Kept.refl C wr).setCell k _))).drewN 1⟩
          have hs := (HR.out.set k (IntKind.i64.wrap (c0 k + sum4 T k))).congr (fun j _ => added_step c0 T k j)
          rw [hq, HS.out, IntWalk.i64_left] at hs
          exact hs
        case measure => simp [intOf]; omega
    · have hkn : k = 256 := by omega
      subst hkn
      have HQ := hide (hQ (w' := wr))
      have HE := hide (show Ints wr C 22 286 (added c0 T 256) ∧ But w.heap.size C w wr from ⟨hR, hK⟩)
      clear hQ hT hR hK hr hC
      go_wp2
      exact HQ.out _ _ _ _ _ _ _ _ _ _ _ _ _ _ _ _ _ _ _ _ _ _ _ _ _ _ _ _ _ _ _ _ HE.out

end Go.Proofs.Ybulkbfko
