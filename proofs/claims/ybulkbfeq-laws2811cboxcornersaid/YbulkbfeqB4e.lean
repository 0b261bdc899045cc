/- WRITTEN BY PROGRAM (gen.py): the loops of LawS2811CBoxCorner at dimension 4. -/
import Derived.Test.YbulkbfeqSmall
import Derived.Test.YbulkbfeqKept
import Derived.WalkKit
import Derived.WalkSpells
import Derived.WalkLawsBesides
import Derived.Deep.OwnRows
import Derived.Deep.QuietTactic
import Derived.BigQuiet
import Derived.BigRegion
import Derived.Deep.RegionHeld3
import Derived.Deep.RegionWith
import Derived.Deep.DrawnRows
import Derived.Deep.DeepMust
import Derived.Test.YbulkbfeqPick
import Derived.Test.YbulkbfeqR16
namespace Go.Proofs.Ybulkbfeq.B4
open Go.RowKit
attribute [local go_sem] run_store_float
attribute [local go_sem ↓] Go.wp_at_zero Go.wp_at_succ
set_option linter.unusedVariables false
set_option maxRecDepth 1000000 in
set_option maxHeartbeats 4000000 in
theorem see_loop {c0 c1 c2 c3 c4 c5 c6 c7 c8 c9 c10 c11 c12 c14 c15 c19 c20 c23 c24 c26 c28 c29 c30 c31 c32 c33 c34 c35 c36 c37 c38 c39 c40 c41 c42 c43 c44 c45 c46 c47 c48 c49 c50 c51 c52 c53 c54 c55 c56 c57 c58 c59 c60 c61 c62 c63 c64 c65 c66 c67 c68 c69 c70 c71 c72 c73 c74 c75 c76 c77 c78 c79 c80 c81 c82 c83 c84 c85 c86 c87 c88 c89 c90 c91 c92 c93 c94 c95 c96 c97 c98 c99 c100 c101 c102 c103 c104 c105 c106 c107 c108 c109 c110 c111 c112 c113 c114 c115 c116 c117 c118 c119 c120 c121 c122 c123 c124 c125 c126 c127 c128 c129 c130 c131 c132 c133 c134 c135 c136 c137 c138 c139 c140 c141 c142 c143 c144 c145 c146 c147 c148 c149 c150 c151 c152 c153 c154 c155 c156 c157 c158 c159 c160 c161 c162 c163 c164 c165 c166 c167 c168 c169 c170 c171 c172 c173 c174 c175 c176 c177 c178 c179 c180 c181 c182 c183 c184 c185 c186 c187 c188 c189 c190 c191 c192 c193 c194 c195 c196 c197 c198 c199 c200 c201 c202 c203 c204 c205 c206 c207 c208 c209 c210 c211 c212 c213 c214 c215 c216 c217 c218 c219 c220 c221 c222 c223 c224 c225 c226 c227 c228 c229 c230 c231 c232 c233 c234 c235 c236 c237 c238 c239 c240 c241 c242 c243 c244 c245 c246 c247 c248 c249 c250 c251 c252 c253 c254 c255 c256 : Value} (S St Ax Sg Lb Hb m : Nat) (C Lo Hi : Nat → Nat) (w1 w : World) (Q : Exit → Act → World → Prop) (hC : ∀ r, r < 4 → C r < 8) (hst : ∀ i, i < 4 → w.cell? ⟨St, i, none⟩ = some (.int .i64 ((m + C i : Nat) : Int))) (hax : ∀ i, i < 4 → w.cell? ⟨Ax, i, none⟩ = some (.int .i64 ((C i / 2 : Nat) : Int))) (hsg : ∀ i, i < 4 → w.cell? ⟨Sg, i, none⟩ = some (FV (sg C i))) (hlo : ∀ i, i < 4 → w.cell? ⟨Lb, i, none⟩ = some (FV (Lo i))) (hhi : ∀ i, i < 4 → w.cell? ⟨Hb, i, none⟩ = some (FV (Hi i))) (h7 : w.cell? ⟨S, 7, none⟩ = some (.slice (some ⟨S + 7, 0, none⟩) 4 4)) (h2 : w.cell? ⟨S, 2, none⟩ = some (.slice (some ⟨S + 2, 0, none⟩) 4 4)) (hBa : ∀ i, i < 4 → w.cell? ⟨S + 7, i, none⟩ = some (.int .i64 ((m + C i : Nat) : Int))) (hB : ∀ i, i < 4 → w.cell? ⟨S + 2, i, none⟩ = some (FV (if C i % 2 = 0 then Hi (C i / 2) else fneg (Lo (C i / 2))))) (hn : ∀ i, i < 4 → fne (Hi i) (Hi i) = false ∧ fne (fneg (Lo i)) (fneg (Lo i)) = false)
    (hQ : ∀ (u12 u27 u28 u132 u133 u134 u135 u136 u137 u138 u139 u140 u141 u142 u143 u144 u145 u146 u147 u148 u149 u150 u151 u152 u153 u154 u155 u156 u157 u158 u159 u160 u161 u162 u163 u164 u165 u166 u167 u168 u169 u170 u171 u172 u173 : Value) (w' : World), (∃ q, w' = w.drewN q) → Q (.exit 4) ⟨#[c0, c1, c2, c3, c4, c5, c6, c7, c8, c9, c10, c11, u12, (.int .i64 4), c14, c15, (.slice (some ⟨St, 0, none⟩) 4 4), (.slice (some ⟨Ax, 0, none⟩) 4 4), (.slice (some ⟨Sg, 0, none⟩) 4 4), c19, c20, (.slice (some ⟨Lb, 0, none⟩) 4 4), (.slice (some ⟨Hb, 0, none⟩) 4 4), c23, c24, (.pointer (some ⟨S, 0, none⟩)), c26, u27, u28, c29, c30, c31, c32, c33, c34, c35, c36, c37, c38, c39, c40, c41, c42, c43, c44, c45, c46, c47, c48, c49, c50, c51, c52, c53, c54, c55, c56, c57, c58, c59, c60, c61, c62, c63, c64, c65, c66, c67, c68, c69, c70, c71, c72, c73, c74, c75, c76, c77, c78, c79, c80, c81, c82, c83, c84, c85, c86, c87, c88, c89, c90, c91, c92, c93, c94, c95, c96, c97, c98, c99, c100, c101, c102, c103, c104, c105, c106, c107, c108, c109, c110, c111, c112, c113, c114, c115, c116, c117, c118, c119, c120, c121, c122, c123, c124, c125, c126, c127, c128, c129, c130, c131, u132, u133, u134, u135, u136, u137, u138, u139, u140, u141, u142, u143, u144, u145, u146, u147, u148, u149, u150, u151, u152, u153, u154, u155, u156, u157, u158, u159, u160, u161, u162, u163, u164, u165, u166, u167, u168, u169, u170, u171, u172, u173, c174, c175, c176, c177, c178, c179, c180, c181, c182, c183, c184, c185, c186, c187, c188, c189, c190, c191, c192, c193, c194, c195, c196, c197, c198, c199, c200, c201, c202, c203, c204, c205, c206, c207, c208, c209, c210, c211, c212, c213, c214, c215, c216, c217, c218, c219, c220, c221, c222, c223, c224, c225, c226, c227, c228, c229, c230, c231, c232, c233, c234, c235, c236, c237, c238, c239, c240, c241, c242, c243, c244, c245, c246, c247, c248, c249, c250, c251, c252, c253, c254, c255, c256], []⟩ w') :
    Code.wp Yba.prog ((Yba.f3.body.bind (findBlock 4)).getD .skip) Q ⟨#[c0, c1, c2, c3, c4, c5, c6, c7, c8, c9, c10, c11, c12, (.int .i64 4), c14, c15, (.slice (some ⟨St, 0, none⟩) 4 4), (.slice (some ⟨Ax, 0, none⟩) 4 4), (.slice (some ⟨Sg, 0, none⟩) 4 4), c19, c20, (.slice (some ⟨Lb, 0, none⟩) 4 4), (.slice (some ⟨Hb, 0, none⟩) 4 4), c23, c24, (.pointer (some ⟨S, 0, none⟩)), c26, (.int .i64 0), c28, c29, c30, c31, c32, c33, c34, c35, c36, c37, c38, c39, c40, c41, c42, c43, c44, c45, c46, c47, c48, c49, c50, c51, c52, c53, c54, c55, c56, c57, c58, c59, c60, c61, c62, c63, c64, c65, c66, c67, c68, c69, c70, c71, c72, c73, c74, c75, c76, c77, c78, c79, c80, c81, c82, c83, c84, c85, c86, c87, c88, c89, c90, c91, c92, c93, c94, c95, c96, c97, c98, c99, c100, c101, c102, c103, c104, c105, c106, c107, c108, c109, c110, c111, c112, c113, c114, c115, c116, c117, c118, c119, c120, c121, c122, c123, c124, c125, c126, c127, c128, c129, c130, c131, c132, c133, c134, c135, c136, c137, c138, c139, c140, c141, c142, c143, c144, c145, c146, c147, c148, c149, c150, c151, c152, c153, c154, c155, c156, c157, c158, c159, c160, c161, c162, c163, c164, c165, c166, c167, c168, c169, c170, c171, c172, c173, c174, c175, c176, c177, c178, c179, c180, c181, c182, c183, c184, c185, c186, c187, c188, c189, c190, c191, c192, c193, c194, c195, c196, c197, c198, c199, c200, c201, c202, c203, c204, c205, c206, c207, c208, c209, c210, c211, c212, c213, c214, c215, c216, c217, c218, c219, c220, c221, c222, c223, c224, c225, c226, c227, c228, c229, c230, c231, c232, c233, c234, c235, c236, c237, c238, c239, c240, c241, c242, c243, c244, c245, c246, c247, c248, c249, c250, c251, c252, c253, c254, c255, c256], []⟩ w := by
  refine outOf ?_
  conv => arg 2; whnf
  go_wp2
  go_loopw [27] (fun i wr => ∃ k : Nat, k ≤ 4 ∧ i = .int .i64 k ∧ ∃ q, wr = w.drewN q) (fun i _ => 4 - (intOf i).toNat)
  case atStart => exact ⟨0, by omega, rfl, 0, rfl⟩
  case round =>
    obtain ⟨k, hk, rfl, q, rfl⟩ := hrel
    by_cases hlt : k < 4
    · have hCk := hC k hlt
      have g1 := hst k hlt
      have g2 := hBa k hlt
      have g3 := hax k hlt
      have g4 := hsg k hlt
      have g5 := hlo (C k / 2) (by omega)
      have g6 := hhi (C k / 2) (by omega)
      have g7 := hB k hlt
      have hnn := hn (C k / 2) (by omega)
      unfold sg at g4
      generalize Lo (C k / 2) = xl at g5 g7 hnn
      generalize Hi (C k / 2) = xh at g6 g7 hnn
      generalize ht : ((m + C k : Nat) : Int) = t at g1 g2
      obtain ⟨i2, hi2⟩ : ∃ i2, i2 = C k / 2 := ⟨_, rfl⟩
      rw [← hi2] at g3 g5 g6
      have hi2D : (i2 : Int) < 4 := by omega
      generalize C k = c at g4 g7
      have un := fun (b : Nat) => un_neg b
      have htt : (t != t) = false := by simp
      have hkk : (k : Int) < 4 := by omega
      clear hQ hst hBa hax hsg hlo hhi hB hn hC ht hi2 hCk
      by_cases hpar : c % 2 = 0
      · rw [if_pos hpar] at g4 g7
        have hgt : (FloatKind.f64.format.order W1 0 == some Ordering.gt) = true := by decide +kernel
        have hself : (FloatKind.f64.format.order xh xh != some Ordering.eq) = false := hnn.1
        clear hnn
        go_wp2
        go_quiet (fail)
        go_wp2
        go_roundw
        case rel => exact ⟨k + 1, by omega, by go_num, _, rfl⟩
        case measure => simp [intOf]; omega
      · rw [if_neg hpar] at g4 g7
        have hgt : (FloatKind.f64.format.order M1 0 == some Ordering.gt) = false := by decide +kernel
        have hself : (FloatKind.f64.format.order (fneg xl) (fneg xl) != some Ordering.eq) = false := hnn.2
        clear hnn
        go_wp2
        go_quiet (fail)
        go_wp2
        go_roundw
        case rel => exact ⟨k + 1, by omega, by go_num, _, rfl⟩
        case measure => simp [intOf]; omega
    · obtain rfl : k = 4 := by omega
      have hq := fun (u12 u27 u28 u132 u133 u134 u135 u136 u137 u138 u139 u140 u141 u142 u143 u144 u145 u146 u147 u148 u149 u150 u151 u152 u153 u154 u155 u156 u157 u158 u159 u160 u161 u162 u163 u164 u165 u166 u167 u168 u169 u170 u171 u172 u173 : Value) => hQ u12 u27 u28 u132 u133 u134 u135 u136 u137 u138 u139 u140 u141 u142 u143 u144 u145 u146 u147 u148 u149 u150 u151 u152 u153 u154 u155 u156 u157 u158 u159 u160 u161 u162 u163 u164 u165 u166 u167 u168 u169 u170 u171 u172 u173 _ ⟨q, rfl⟩
      clear hQ hst hBa hax hsg hlo hhi hB hn hC h7 h2
      go_wp2
      exact hq .. 

end Go.Proofs.Ybulkbfeq.B4
