/- WRITTEN BY PROGRAM (gen.py): the loops of LawS2811CTwoRows. -/
import Derived.Test.YbulkbfeqSmall
import Derived.Test.YbulkbfeqKept
import Derived.WalkKit
import Derived.WalkSpells
import Derived.WalkLawsBesides
import Derived.Deep.OwnRows
import Derived.Deep.QuietTactic
import Derived.BigQuiet
import Derived.BigRegion
import Derived.Deep.RegionHeld3
import Derived.Deep.RegionWith
import Derived.Deep.DrawnRows
import Derived.Deep.DeepMust
import Derived.Test.YbulkbfeqFill
namespace Go.Proofs.Ybulkbfeq.Law2
open Go.RowKit
attribute [local go_sem] run_store_float
attribute [local go_sem ↓] Go.wp_at_zero Go.wp_at_succ
set_option linter.unusedVariables false
set_option maxRecDepth 1000000 in
set_option maxHeartbeats 4000000 in
theorem see_loop {c0 c1 c2 c3 c4 c5 c6 c7 c9 c10 c11 c12 c13 c14 c16 c18 c19 c20 c21 c22 c23 c24 c25 c26 c27 c28 c29 c30 c31 c32 c33 c34 c35 c36 c37 c38 c39 c40 c41 c42 c43 c44 c45 c46 c47 c48 c49 c50 c51 c52 c53 c54 c55 c56 c57 c58 c59 c60 c61 c62 c63 c64 c65 c66 c67 c68 c69 c70 c71 c72 c73 c74 c75 c76 c77 c78 c79 c80 c81 c82 c83 c84 c85 c86 c87 c88 c89 c90 c91 c92 c93 c94 c95 c96 c97 c98 c99 c100 c101 c102 c103 c104 c105 c106 c107 c108 c109 c110 c111 c112 c113 c114 c115 c116 c117 c118 c119 c120 c121 c122 c123 c124 c125 c126 c127 c128 c129 c130 c131 c132 c133 c134 c135 c136 c137 c138 c139 c140 c141 c142 c143 c144 c145 c146 c147 c148 c149 c150 c151 c152 c153 c154 c155 c156 c157 c158 c159 c160 c161 c162 c163 c164 : Value} (S St : Nat) (T : Nat → Nat) (w1 w : World) (Q : Exit → Act → World → Prop) (hst : ∀ i, i < 2 → w.cell? ⟨St, i, none⟩ = some (.int .i64 (T i : Int))) (h7 : w.cell? ⟨S, 7, none⟩ = some (.slice (some ⟨S + 7, 0, none⟩) 2 2)) (h2 : w.cell? ⟨S, 2, none⟩ = some (.slice (some ⟨S + 2, 0, none⟩) 2 2)) (hBa : ∀ i, i < 2 → w.cell? ⟨S + 7, i, none⟩ = some (.int .i64 (T i : Int))) (hB : ∀ i, i < 2 → w.cell? ⟨S + 2, i, none⟩ = some (FV 4607182418800017408))
    (hQ : ∀ (u4 u17 u91 u92 u93 u94 u95 u96 u97 u98 u99 u100 u101 u102 u103 u104 u105 u106 u107 u108 u109 u110 u111 u112 : Value) (w' : World), (∃ q, w' = w.drewN q) → Q (.exit 4) ⟨#[c0, c1, c2, c3, u4, c5, c6, c7, (.slice (some ⟨St, 0, none⟩) 2 2), c9, c10, c11, c12, c13, c14, (.pointer (some ⟨S, 0, none⟩)), c16, u17, c18, c19, c20, c21, c22, c23, c24, c25, c26, c27, c28, c29, c30, c31, c32, c33, c34, c35, c36, c37, c38, c39, c40, c41, c42, c43, c44, c45, c46, c47, c48, c49, c50, c51, c52, c53, c54, c55, c56, c57, c58, c59, c60, c61, c62, c63, c64, c65, c66, c67, c68, c69, c70, c71, c72, c73, c74, c75, c76, c77, c78, c79, c80, c81, c82, c83, c84, c85, c86, c87, c88, c89, c90, u91, u92, u93, u94, u95, u96, u97, u98, u99, u100, u101, u102, u103, u104, u105, u106, u107, u108, u109, u110, u111, u112, c113, c114, c115, c116, c117, c118, c119, c120, c121, c122, c123, c124, c125, c126, c127, c128, c129, c130, c131, c132, c133, c134, c135, c136, c137, c138, c139, c140, c141, c142, c143, c144, c145, c146, c147, c148, c149, c150, c151, c152, c153, c154, c155, c156, c157, c158, c159, c160, c161, c162, c163, c164], []⟩ w') :
    Code.wp Yba.prog ((Yba.f4.body.bind (findBlock 4)).getD .skip) Q ⟨#[c0, c1, c2, c3, c4, c5, c6, c7, (.slice (some ⟨St, 0, none⟩) 2 2), c9, c10, c11, c12, c13, c14, (.pointer (some ⟨S, 0, none⟩)), c16, (.int .i64 0), c18, c19, c20, c21, c22, c23, c24, c25, c26, c27, c28, c29, c30, c31, c32, c33, c34, c35, c36, c37, c38, c39, c40, c41, c42, c43, c44, c45, c46, c47, c48, c49, c50, c51, c52, c53, c54, c55, c56, c57, c58, c59, c60, c61, c62, c63, c64, c65, c66, c67, c68, c69, c70, c71, c72, c73, c74, c75, c76, c77, c78, c79, c80, c81, c82, c83, c84, c85, c86, c87, c88, c89, c90, c91, c92, c93, c94, c95, c96, c97, c98, c99, c100, c101, c102, c103, c104, c105, c106, c107, c108, c109, c110, c111, c112, c113, c114, c115, c116, c117, c118, c119, c120, c121, c122, c123, c124, c125, c126, c127, c128, c129, c130, c131, c132, c133, c134, c135, c136, c137, c138, c139, c140, c141, c142, c143, c144, c145, c146, c147, c148, c149, c150, c151, c152, c153, c154, c155, c156, c157, c158, c159, c160, c161, c162, c163, c164], []⟩ w := by
  refine outOf ?_
  conv => arg 2; whnf
  go_wp2
  go_loopw [17] (fun i wr => ∃ k : Nat, k ≤ 2 ∧ i = .int .i64 k ∧ ∃ q, wr = w.drewN q) (fun i _ => 2 - (intOf i).toNat)
  case atStart => exact ⟨0, by omega, rfl, 0, rfl⟩
  case round =>
    obtain ⟨k, hk, rfl, q, rfl⟩ := hrel
    by_cases hlt : k < 2
    · have g1 := hst k hlt
      have g2 := hBa k hlt
      have g3 := hB k hlt
      have hone : (FloatKind.f64.format.order 4607182418800017408 4607182418800017408 != some Ordering.eq) = false := by decide +kernel
      generalize T k = t at g1 g2
      clear hQ hst hBa hB
      have hi : (k : Int) < 2 := by omega
      have htt : ((t : Int) != (t : Int)) = false := by simp
      go_wp2
      go_quiet (fail)
      go_wp2
      go_roundw
      case rel => exact ⟨k + 1, by omega, by go_num, _, rfl⟩
      case measure => simp [intOf]; omega
    · obtain rfl : k = 2 := by omega
      have hq := fun (u4 u17 u91 u92 u93 u94 u95 u96 u97 u98 u99 u100 u101 u102 u103 u104 u105 u106 u107 u108 u109 u110 u111 u112 : Value) => hQ u4 u17 u91 u92 u93 u94 u95 u96 u97 u98 u99 u100 u101 u102 u103 u104 u105 u106 u107 u108 u109 u110 u111 u112 _ ⟨q, rfl⟩
      clear hQ hst hBa hB h7 h2
      go_wp2
      exact hq .. 

end Go.Proofs.Ybulkbfeq.Law2
