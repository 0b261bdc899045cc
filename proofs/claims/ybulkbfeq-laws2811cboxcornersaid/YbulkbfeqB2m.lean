/- WRITTEN BY PROGRAM (gen.py): the loops of LawS2811CBoxCorner at dimension 2. -/
import Derived.Test.YbulkbfeqSmall
import Derived.Test.YbulkbfeqKept
import Derived.WalkKit
import Derived.WalkSpells
import Derived.WalkLawsBesides
import Derived.Deep.OwnRows
import Derived.Deep.QuietTactic
import Derived.BigQuiet
import Derived.BigRegion
import Derived.Deep.RegionHeld3
import Derived.Deep.RegionWith
import Derived.Deep.DrawnRows
import Derived.Deep.DeepMust
import Derived.Test.YbulkbfeqPick
namespace Go.Proofs.Ybulkbfeq.B2
open Go.RowKit
attribute [local go_sem] run_store_float
attribute [local go_sem ↓] Go.wp_at_zero Go.wp_at_succ
set_option linter.unusedVariables false
set_option maxRecDepth 1000000 in
set_option maxHeartbeats 4000000 in
theorem mult_loop {c0 c1 c2 c3 c4 c5 c6 c7 c8 c9 c10 c11 c12 c14 c15 c16 c19 c20 c21 c22 c24 c26 c27 c28 c29 c30 c31 c32 c33 c34 c37 c38 c39 c40 c41 c42 c43 c44 c45 c46 c47 c48 c49 c50 c51 c52 c53 c54 c55 c56 c57 c58 c59 c60 c61 c62 c63 c64 c65 c66 c67 c68 c69 c70 c71 c72 c73 c74 c75 c76 c77 c78 c79 c80 c81 c82 c83 c84 c85 c86 c87 c88 c89 c90 c91 c92 c93 c94 c95 c96 c97 c98 c99 c100 c101 c102 c103 c104 c105 c106 c107 c108 c109 c110 c111 c112 c113 c114 c115 c116 c117 c118 c119 c120 c121 c122 c123 c124 c125 c126 c127 c128 c129 c130 c131 c132 c133 c134 c135 c136 c137 c138 c139 c140 c141 c142 c143 c144 c145 c146 c147 c148 c149 c150 c151 c152 c153 c154 c155 c156 c157 c158 c159 c160 c161 c162 c163 c164 c165 c166 c167 c168 c169 c170 c171 c172 c173 c174 c175 c176 c177 c178 c179 c180 c181 c182 c183 c184 c185 c186 c187 c188 c189 c190 c191 c192 c193 c194 c195 c196 c197 c198 c199 c200 c201 c202 c203 c204 c205 c206 c207 c208 c209 c210 c211 c212 c213 c214 c215 c216 c217 c218 c219 c220 c221 c222 c223 c224 c225 c226 c227 c228 c229 c230 c231 c232 c233 c234 c235 c236 c237 c238 c239 c240 c241 c242 c243 c244 c245 c246 c247 c248 c249 c250 c251 c252 c253 c254 c255 c256 : Value} (S Ax Sg Wb jn : Nat) (C Wf X : Nat → Nat) (w1 w : World) (Q : Exit → Act → World → Prop) (hC : ∀ r, r < 2 → C r < 4) (h3 : w.cell? ⟨S, 3, none⟩ = some (.slice (some ⟨S + 3, 0, none⟩) 2 2)) (hax : ∀ i, i < 2 → w.cell? ⟨Ax, i, none⟩ = some (.int .i64 ((C i / 2 : Nat) : Int))) (hsg : ∀ i, i < 2 → w.cell? ⟨Sg, i, none⟩ = some (FV (sg C i))) (hwf : ∀ i, i < 2 → w.cell? ⟨Wb, i, none⟩ = some (FV (Wf i))) (hX : ∀ i, i < 2 → w.cell? ⟨S + 3, i, none⟩ = some (FV (X i))) (hjn : jn ≤ 2) (hv : ∀ j, j < 2 → (Ieee.double.mul (sg C j) (Wf (ax C j))).isSome = true) (hlo : ∀ j, j < jn → flt (fmul (sg C j) (Wf (ax C j))) 0 = false ∧ fne (X j) (fmul (sg C j) (Wf (ax C j))) = false) (hneg : jn < 2 → flt (fmul (sg C jn) (Wf (ax C jn))) 0 = true)
    (hQ : ∀ (u12 u36 u37 u228 u229 u230 u231 u232 u233 u234 u235 u236 u237 u238 u239 u240 u241 u242 u243 u244 u245 u246 u247 u248 u249 u250 u251 u252 u253 : Value) (w' : World), (∃ q, w' = w.drewN q) → Q (.exit 12) ⟨#[c0, c1, c2, c3, c4, c5, c6, c7, c8, c9, c10, c11, u12, (.int .i64 2), c14, c15, c16, (.slice (some ⟨Ax, 0, none⟩) 2 2), (.slice (some ⟨Sg, 0, none⟩) 2 2), c19, c20, c21, c22, (.slice (some ⟨Wb, 0, none⟩) 2 2), c24, (.pointer (some ⟨S, 0, none⟩)), c26, c27, c28, c29, c30, c31, c32, c33, c34, (.bool (jn == 2)), u36, u37, c38, c39, c40, c41, c42, c43, c44, c45, c46, c47, c48, c49, c50, c51, c52, c53, c54, c55, c56, c57, c58, c59, c60, c61, c62, c63, c64, c65, c66, c67, c68, c69, c70, c71, c72, c73, c74, c75, c76, c77, c78, c79, c80, c81, c82, c83, c84, c85, c86, c87, c88, c89, c90, c91, c92, c93, c94, c95, c96, c97, c98, c99, c100, c101, c102, c103, c104, c105, c106, c107, c108, c109, c110, c111, c112, c113, c114, c115, c116, c117, c118, c119, c120, c121, c122, c123, c124, c125, c126, c127, c128, c129, c130, c131, c132, c133, c134, c135, c136, c137, c138, c139, c140, c141, c142, c143, c144, c145, c146, c147, c148, c149, c150, c151, c152, c153, c154, c155, c156, c157, c158, c159, c160, c161, c162, c163, c164, c165, c166, c167, c168, c169, c170, c171, c172, c173, c174, c175, c176, c177, c178, c179, c180, c181, c182, c183, c184, c185, c186, c187, c188, c189, c190, c191, c192, c193, c194, c195, c196, c197, c198, c199, c200, c201, c202, c203, c204, c205, c206, c207, c208, c209, c210, c211, c212, c213, c214, c215, c216, c217, c218, c219, c220, c221, c222, c223, c224, c225, c226, c227, u228, u229, u230, u231, u232, u233, u234, u235, u236, u237, u238, u239, u240, u241, u242, u243, u244, u245, u246, u247, u248, u249, u250, u251, u252, u253, c254, c255, c256], []⟩ w') :
    Code.wp Yba.prog ((Yba.f3.body.bind (findBlock 12)).getD .skip) Q ⟨#[c0, c1, c2, c3, c4, c5, c6, c7, c8, c9, c10, c11, c12, (.int .i64 2), c14, c15, c16, (.slice (some ⟨Ax, 0, none⟩) 2 2), (.slice (some ⟨Sg, 0, none⟩) 2 2), c19, c20, c21, c22, (.slice (some ⟨Wb, 0, none⟩) 2 2), c24, (.pointer (some ⟨S, 0, none⟩)), c26, c27, c28, c29, c30, c31, c32, c33, c34, (.bool true), (.int .i64 0), c37, c38, c39, c40, c41, c42, c43, c44, c45, c46, c47, c48, c49, c50, c51, c52, c53, c54, c55, c56, c57, c58, c59, c60, c61, c62, c63, c64, c65, c66, c67, c68, c69, c70, c71, c72, c73, c74, c75, c76, c77, c78, c79, c80, c81, c82, c83, c84, c85, c86, c87, c88, c89, c90, c91, c92, c93, c94, c95, c96, c97, c98, c99, c100, c101, c102, c103, c104, c105, c106, c107, c108, c109, c110, c111, c112, c113, c114, c115, c116, c117, c118, c119, c120, c121, c122, c123, c124, c125, c126, c127, c128, c129, c130, c131, c132, c133, c134, c135, c136, c137, c138, c139, c140, c141, c142, c143, c144, c145, c146, c147, c148, c149, c150, c151, c152, c153, c154, c155, c156, c157, c158, c159, c160, c161, c162, c163, c164, c165, c166, c167, c168, c169, c170, c171, c172, c173, c174, c175, c176, c177, c178, c179, c180, c181, c182, c183, c184, c185, c186, c187, c188, c189, c190, c191, c192, c193, c194, c195, c196, c197, c198, c199, c200, c201, c202, c203, c204, c205, c206, c207, c208, c209, c210, c211, c212, c213, c214, c215, c216, c217, c218, c219, c220, c221, c222, c223, c224, c225, c226, c227, c228, c229, c230, c231, c232, c233, c234, c235, c236, c237, c238, c239, c240, c241, c242, c243, c244, c245, c246, c247, c248, c249, c250, c251, c252, c253, c254, c255, c256], []⟩ w := by
  refine outOf ?_
  conv => arg 2; whnf
  go_wp2
  go_loopw [35, 36] (fun t i wr => ∃ k : Nat, k ≤ jn ∧ i = .int .i64 k ∧ t = .bool true ∧ ∃ q, wr = w.drewN q) (fun _ i _ => 2 - (intOf i).toNat)
  case atStart => exact ⟨0, by omega, rfl, rfl, 0, rfl⟩
  case round =>
    obtain ⟨k, hk, rfl, rfl, q, rfl⟩ := hrel
    by_cases hlt : k < 2
    · have hCk := hC k hlt
      have g1 := hax k hlt
      have g2 := hsg k hlt
      have g3 := hwf (C k / 2) (by omega)
      have g4 := hX k hlt
      have hm := run_fmul (P := Yba.prog) 26 _ _ (hv k hlt)
      have hl := hlo k
      have hg : k = jn → flt (fmul (sg C k) (Wf (ax C k))) 0 = true := fun h => by subst h; exact hneg hlt
      have hax2 : ax C k = C k / 2 := rfl
      rw [hax2] at hm hl hg
      obtain ⟨i2, hi2⟩ : ∃ i2, i2 = C k / 2 := ⟨_, rfl⟩
      rw [← hi2] at g1 g3 hm hl hg
      generalize sg C k = s at g2 hm hl hg
      generalize Wf i2 = y at g3 hm hl hg
      generalize fmul s y = z at hm hl hg
      generalize X k = x at g4 hl
      have hi2D : (i2 : Int) < 2 := by omega
      have hkk : (k : Int) < 2 := by omega
      have HQ := hide hQ
      clear hQ hax hsg hwf hX hv hlo hneg hC hax2 hi2 hCk
      by_cases hkj : k < jn
      · obtain ⟨l1, l2⟩ := hl hkj
        have e1 : (FloatKind.f64.format.order z 0 == some Ordering.lt) = false := l1
        have e2 : (FloatKind.f64.format.order x z != some Ordering.eq) = false := l2
        clear hl hg l1 l2 HQ
        go_wp2
        go_quiet (fail)
        go_wp2
        go_roundw
        case rel => exact ⟨k + 1, by omega, by go_num, rfl, _, rfl⟩
        case measure => simp [intOf]; omega
      · have hkj' : k = jn := by omega
        have l1 := hg hkj'
        have e1 : (FloatKind.f64.format.order z 0 == some Ordering.lt) = true := l1
        have hne : (jn == 2) = false := by simp; omega
        have hq : ∀ (u12 u36 u37 u228 u229 u230 u231 u232 u233 u234 u235 u236 u237 u238 u239 u240 u241 u242 u243 u244 u245 u246 u247 u248 u249 u250 u251 u252 u253 : Value) (q : Nat), _ := fun u12 u36 u37 u228 u229 u230 u231 u232 u233 u234 u235 u236 u237 u238 u239 u240 u241 u242 u243 u244 u245 u246 u247 u248 u249 u250 u251 u252 u253 q => HQ.out u12 u36 u37 u228 u229 u230 u231 u232 u233 u234 u235 u236 u237 u238 u239 u240 u241 u242 u243 u244 u245 u246 u247 u248 u249 u250 u251 u252 u253 _ ⟨q, rfl⟩
        rw [hne] at hq
        clear hl hg l1 HQ hkj'
        go_wp2
        go_quiet (fail)
        go_wp2
        exact hq _ _ _ _ _ _ _ _ _ _ _ _ _ _ _ _ _ _ _ _ _ _ _ _ _ _ _ _ _ _
    · obtain rfl : k = 2 := by omega
      obtain rfl : jn = 2 := by omega
      have hq := fun (u12 u36 u37 u228 u229 u230 u231 u232 u233 u234 u235 u236 u237 u238 u239 u240 u241 u242 u243 u244 u245 u246 u247 u248 u249 u250 u251 u252 u253 : Value) => hQ u12 u36 u37 u228 u229 u230 u231 u232 u233 u234 u235 u236 u237 u238 u239 u240 u241 u242 u243 u244 u245 u246 u247 u248 u249 u250 u251 u252 u253 _ ⟨q, rfl⟩
      clear hQ hax hsg hwf hX hv hlo hneg hC h3
      go_wp2
      exact hq .. 

end Go.Proofs.Ybulkbfeq.B2
