/- WRITTEN BY PROGRAM (gen.py): the loops of LawS2811CBoxCorner at dimension 1. -/
import Derived.Test.YbulkbfeqSmall
import Derived.Test.YbulkbfeqKept
import Derived.WalkKit
import Derived.WalkSpells
import Derived.WalkLawsBesides
import Derived.Deep.OwnRows
import Derived.Deep.QuietTactic
import Derived.BigQuiet
import Derived.BigRegion
import Derived.Deep.RegionHeld3
import Derived.Deep.RegionWith
import Derived.Deep.DrawnRows
import Derived.Deep.DeepMust
import Derived.Test.YbulkbfeqPick
namespace Go.Proofs.Ybulkbfeq.B1
open Go.RowKit
attribute [local go_sem] run_store_float
attribute [local go_sem ↓] Go.wp_at_zero Go.wp_at_succ
set_option linter.unusedVariables false
set_option maxRecDepth 1000000 in
set_option maxHeartbeats 4000000 in
theorem inv_in {c0 c1 c2 c3 c4 c5 c6 c7 c8 c9 c10 c11 c12 c14 c15 c16 c19 c20 c21 c22 c23 c24 c26 c27 c28 c29 c30 c31 c34 c35 c36 c37 c38 c39 c40 c41 c42 c43 c44 c45 c46 c47 c48 c49 c50 c51 c52 c53 c54 c55 c56 c57 c58 c59 c60 c61 c62 c63 c64 c65 c66 c67 c68 c69 c70 c71 c72 c73 c74 c75 c76 c77 c78 c79 c80 c81 c82 c83 c84 c85 c86 c87 c88 c89 c90 c91 c92 c93 c94 c95 c96 c97 c98 c99 c100 c101 c102 c103 c104 c105 c106 c107 c108 c109 c110 c111 c112 c113 c114 c115 c116 c117 c118 c119 c120 c121 c122 c123 c124 c125 c126 c127 c128 c129 c130 c131 c132 c133 c134 c135 c136 c137 c138 c139 c140 c141 c142 c143 c144 c145 c146 c147 c148 c149 c150 c151 c152 c153 c154 c155 c156 c157 c158 c159 c160 c161 c162 c163 c164 c165 c166 c167 c168 c169 c170 c171 c172 c173 c174 c175 c176 c177 c178 c179 c180 c181 c182 c183 c184 c185 c186 c187 c188 c189 c190 c191 c192 c193 c194 c195 c196 c197 c198 c199 c200 c201 c202 c203 c204 c205 c206 c207 c208 c209 c210 c211 c212 c213 c214 c215 c216 c217 c218 c219 c220 c221 c222 c223 c224 c225 c226 c227 c228 c229 c230 c231 c232 c233 c234 c235 c236 c237 c238 c239 c240 c241 c242 c243 c244 c245 c246 c247 c248 c249 c250 c251 c252 c253 c254 c255 c256 : Value} (S Ax Sg a : Nat) (C I : Nat → Nat) (w1 w : World) (Q : Exit → Act → World → Prop) (ha : a < 1) (h1 : w.cell? ⟨S, 1, none⟩ = some (.slice (some ⟨S + 1, 0, none⟩) 1 1)) (hax : ∀ i, i < 1 → w.cell? ⟨Ax, i, none⟩ = some (.int .i64 ((C i / 2 : Nat) : Int))) (hsg : ∀ i, i < 1 → w.cell? ⟨Sg, i, none⟩ = some (FV (sg C i))) (hI : ∀ i, i < 1 → w.cell? ⟨S + 1, i, none⟩ = some (FV (I i))) (hv : ∀ a, a < 1 → ∀ b, b < 1 → fne (I (a * 1 + b)) (if ax C b = a then sg C b else 0) = false)
    (hQ : ∀ (u12 u33 u34 u202 u203 u204 u205 u206 u207 u208 u209 u210 u211 u212 u213 u214 u215 u216 u217 u218 u219 u220 u221 u222 u223 u224 u225 u226 u227 : Value) (w' : World), (w' = w) → Q (.exit 10) ⟨#[c0, c1, c2, c3, c4, c5, c6, c7, c8, c9, c10, c11, u12, (.int .i64 1), c14, c15, c16, (.slice (some ⟨Ax, 0, none⟩) 1 1), (.slice (some ⟨Sg, 0, none⟩) 1 1), c19, c20, c21, c22, c23, c24, (.pointer (some ⟨S, 0, none⟩)), c26, c27, c28, c29, c30, c31, (.int .i64 (a : Int)), u33, u34, c35, c36, c37, c38, c39, c40, c41, c42, c43, c44, c45, c46, c47, c48, c49, c50, c51, c52, c53, c54, c55, c56, c57, c58, c59, c60, c61, c62, c63, c64, c65, c66, c67, c68, c69, c70, c71, c72, c73, c74, c75, c76, c77, c78, c79, c80, c81, c82, c83, c84, c85, c86, c87, c88, c89, c90, c91, c92, c93, c94, c95, c96, c97, c98, c99, c100, c101, c102, c103, c104, c105, c106, c107, c108, c109, c110, c111, c112, c113, c114, c115, c116, c117, c118, c119, c120, c121, c122, c123, c124, c125, c126, c127, c128, c129, c130, c131, c132, c133, c134, c135, c136, c137, c138, c139, c140, c141, c142, c143, c144, c145, c146, c147, c148, c149, c150, c151, c152, c153, c154, c155, c156, c157, c158, c159, c160, c161, c162, c163, c164, c165, c166, c167, c168, c169, c170, c171, c172, c173, c174, c175, c176, c177, c178, c179, c180, c181, c182, c183, c184, c185, c186, c187, c188, c189, c190, c191, c192, c193, c194, c195, c196, c197, c198, c199, c200, c201, u202, u203, u204, u205, u206, u207, u208, u209, u210, u211, u212, u213, u214, u215, u216, u217, u218, u219, u220, u221, u222, u223, u224, u225, u226, u227, c228, c229, c230, c231, c232, c233, c234, c235, c236, c237, c238, c239, c240, c241, c242, c243, c244, c245, c246, c247, c248, c249, c250, c251, c252, c253, c254, c255, c256], []⟩ w') :
    Code.wp Yba.prog ((Yba.f3.body.bind (findBlock 10)).getD .skip) Q ⟨#[c0, c1, c2, c3, c4, c5, c6, c7, c8, c9, c10, c11, c12, (.int .i64 1), c14, c15, c16, (.slice (some ⟨Ax, 0, none⟩) 1 1), (.slice (some ⟨Sg, 0, none⟩) 1 1), c19, c20, c21, c22, c23, c24, (.pointer (some ⟨S, 0, none⟩)), c26, c27, c28, c29, c30, c31, (.int .i64 (a : Int)), (.int .i64 0), c34, c35, c36, c37, c38, c39, c40, c41, c42, c43, c44, c45, c46, c47, c48, c49, c50, c51, c52, c53, c54, c55, c56, c57, c58, c59, c60, c61, c62, c63, c64, c65, c66, c67, c68, c69, c70, c71, c72, c73, c74, c75, c76, c77, c78, c79, c80, c81, c82, c83, c84, c85, c86, c87, c88, c89, c90, c91, c92, c93, c94, c95, c96, c97, c98, c99, c100, c101, c102, c103, c104, c105, c106, c107, c108, c109, c110, c111, c112, c113, c114, c115, c116, c117, c118, c119, c120, c121, c122, c123, c124, c125, c126, c127, c128, c129, c130, c131, c132, c133, c134, c135, c136, c137, c138, c139, c140, c141, c142, c143, c144, c145, c146, c147, c148, c149, c150, c151, c152, c153, c154, c155, c156, c157, c158, c159, c160, c161, c162, c163, c164, c165, c166, c167, c168, c169, c170, c171, c172, c173, c174, c175, c176, c177, c178, c179, c180, c181, c182, c183, c184, c185, c186, c187, c188, c189, c190, c191, c192, c193, c194, c195, c196, c197, c198, c199, c200, c201, c202, c203, c204, c205, c206, c207, c208, c209, c210, c211, c212, c213, c214, c215, c216, c217, c218, c219, c220, c221, c222, c223, c224, c225, c226, c227, c228, c229, c230, c231, c232, c233, c234, c235, c236, c237, c238, c239, c240, c241, c242, c243, c244, c245, c246, c247, c248, c249, c250, c251, c252, c253, c254, c255, c256], []⟩ w := by
  refine outOf ?_
  conv => arg 2; whnf
  go_wp2
  go_loopw [33] (fun i wr => ∃ k : Nat, k ≤ 1 ∧ i = .int .i64 k ∧ wr = w) (fun i _ => 1 - (intOf i).toNat)
  case atStart => exact ⟨0, by omega, rfl, rfl⟩
  case round =>
    obtain ⟨k, hk, rfl, rfl⟩ := hrel
    by_cases hlt : k < 1
    · have g1 := hax k hlt
      have g2 := hsg k hlt
      have g3 := hI (a * 1 + k) (by omega)
      have g4 := hv a ha k hlt
      simp only [Nat.mul_one] at g3 g4
      generalize I (a + k) = x at g3 g4
      generalize sg C k = s at g2 g4
      by_cases hta : ax C k = a
      · rw [if_pos hta] at g4
        have hne : (FloatKind.f64.format.order x s != some Ordering.eq) = false := g4
        have hta2 : ((C k / 2 : Nat) : Int) = (a : Int) := by unfold ax at hta; omega
        rw [hta2] at g1
        clear hQ hax hsg hI hv g4 hta hta2
        go_wp2
        go_roundw
        case rel => exact ⟨k + 1, by omega, by go_num, by trivial⟩
        case measure => simp [intOf]; omega
      · rw [if_neg hta] at g4
        have hne : (FloatKind.f64.format.order x 0 != some Ordering.eq) = false := g4
        have hta' : (((C k / 2 : Nat) : Int) == (a : Int)) = false := by simp; unfold ax at hta; omega
        generalize ((C k / 2 : Nat) : Int) = t at g1 hta'
        clear hQ hax hsg hI hv g4 hta
        go_wp2
        go_roundw
        case rel => exact ⟨k + 1, by omega, by go_num, by trivial⟩
        case measure => simp [intOf]; omega
    · obtain rfl : k = 1 := by omega
      have hq := fun (u12 u33 u34 u202 u203 u204 u205 u206 u207 u208 u209 u210 u211 u212 u213 u214 u215 u216 u217 u218 u219 u220 u221 u222 u223 u224 u225 u226 u227 : Value) => hQ u12 u33 u34 u202 u203 u204 u205 u206 u207 u208 u209 u210 u211 u212 u213 u214 u215 u216 u217 u218 u219 u220 u221 u222 u223 u224 u225 u226 u227 _ rfl
      clear hQ hax hsg hI hv h1
      go_wp2
      exact hq .. 
set_option maxRecDepth 1000000 in
set_option maxHeartbeats 4000000 in
theorem inv_out {c0 c1 c2 c3 c4 c5 c6 c7 c8 c9 c10 c11 c12 c14 c15 c16 c19 c20 c21 c22 c23 c24 c26 c27 c28 c29 c30 c31 c33 c34 c35 c36 c37 c38 c39 c40 c41 c42 c43 c44 c45 c46 c47 c48 c49 c50 c51 c52 c53 c54 c55 c56 c57 c58 c59 c60 c61 c62 c63 c64 c65 c66 c67 c68 c69 c70 c71 c72 c73 c74 c75 c76 c77 c78 c79 c80 c81 c82 c83 c84 c85 c86 c87 c88 c89 c90 c91 c92 c93 c94 c95 c96 c97 c98 c99 c100 c101 c102 c103 c104 c105 c106 c107 c108 c109 c110 c111 c112 c113 c114 c115 c116 c117 c118 c119 c120 c121 c122 c123 c124 c125 c126 c127 c128 c129 c130 c131 c132 c133 c134 c135 c136 c137 c138 c139 c140 c141 c142 c143 c144 c145 c146 c147 c148 c149 c150 c151 c152 c153 c154 c155 c156 c157 c158 c159 c160 c161 c162 c163 c164 c165 c166 c167 c168 c169 c170 c171 c172 c173 c174 c175 c176 c177 c178 c179 c180 c181 c182 c183 c184 c185 c186 c187 c188 c189 c190 c191 c192 c193 c194 c195 c196 c197 c198 c199 c200 c201 c202 c203 c204 c205 c206 c207 c208 c209 c210 c211 c212 c213 c214 c215 c216 c217 c218 c219 c220 c221 c222 c223 c224 c225 c226 c227 c228 c229 c230 c231 c232 c233 c234 c235 c236 c237 c238 c239 c240 c241 c242 c243 c244 c245 c246 c247 c248 c249 c250 c251 c252 c253 c254 c255 c256 : Value} (S Ax Sg : Nat) (C I : Nat → Nat) (w1 w : World) (Q : Exit → Act → World → Prop) (h1 : w.cell? ⟨S, 1, none⟩ = some (.slice (some ⟨S + 1, 0, none⟩) 1 1)) (hax : ∀ i, i < 1 → w.cell? ⟨Ax, i, none⟩ = some (.int .i64 ((C i / 2 : Nat) : Int))) (hsg : ∀ i, i < 1 → w.cell? ⟨Sg, i, none⟩ = some (FV (sg C i))) (hI : ∀ i, i < 1 → w.cell? ⟨S + 1, i, none⟩ = some (FV (I i))) (hv : ∀ a, a < 1 → ∀ b, b < 1 → fne (I (a * 1 + b)) (if ax C b = a then sg C b else 0) = false)
    (hQ : ∀ (u12 u32 u33 u34 u197 u198 u199 u200 u201 u202 u203 u204 u205 u206 u207 u208 u209 u210 u211 u212 u213 u214 u215 u216 u217 u218 u219 u220 u221 u222 u223 u224 u225 u226 u227 : Value) (w' : World), (w' = w) → Q (.exit 8) ⟨#[c0, c1, c2, c3, c4, c5, c6, c7, c8, c9, c10, c11, u12, (.int .i64 1), c14, c15, c16, (.slice (some ⟨Ax, 0, none⟩) 1 1), (.slice (some ⟨Sg, 0, none⟩) 1 1), c19, c20, c21, c22, c23, c24, (.pointer (some ⟨S, 0, none⟩)), c26, c27, c28, c29, c30, c31, u32, u33, u34, c35, c36, c37, c38, c39, c40, c41, c42, c43, c44, c45, c46, c47, c48, c49, c50, c51, c52, c53, c54, c55, c56, c57, c58, c59, c60, c61, c62, c63, c64, c65, c66, c67, c68, c69, c70, c71, c72, c73, c74, c75, c76, c77, c78, c79, c80, c81, c82, c83, c84, c85, c86, c87, c88, c89, c90, c91, c92, c93, c94, c95, c96, c97, c98, c99, c100, c101, c102, c103, c104, c105, c106, c107, c108, c109, c110, c111, c112, c113, c114, c115, c116, c117, c118, c119, c120, c121, c122, c123, c124, c125, c126, c127, c128, c129, c130, c131, c132, c133, c134, c135, c136, c137, c138, c139, c140, c141, c142, c143, c144, c145, c146, c147, c148, c149, c150, c151, c152, c153, c154, c155, c156, c157, c158, c159, c160, c161, c162, c163, c164, c165, c166, c167, c168, c169, c170, c171, c172, c173, c174, c175, c176, c177, c178, c179, c180, c181, c182, c183, c184, c185, c186, c187, c188, c189, c190, c191, c192, c193, c194, c195, c196, u197, u198, u199, u200, u201, u202, u203, u204, u205, u206, u207, u208, u209, u210, u211, u212, u213, u214, u215, u216, u217, u218, u219, u220, u221, u222, u223, u224, u225, u226, u227, c228, c229, c230, c231, c232, c233, c234, c235, c236, c237, c238, c239, c240, c241, c242, c243, c244, c245, c246, c247, c248, c249, c250, c251, c252, c253, c254, c255, c256], []⟩ w') :
    Code.wp Yba.prog ((Yba.f3.body.bind (findBlock 8)).getD .skip) Q ⟨#[c0, c1, c2, c3, c4, c5, c6, c7, c8, c9, c10, c11, c12, (.int .i64 1), c14, c15, c16, (.slice (some ⟨Ax, 0, none⟩) 1 1), (.slice (some ⟨Sg, 0, none⟩) 1 1), c19, c20, c21, c22, c23, c24, (.pointer (some ⟨S, 0, none⟩)), c26, c27, c28, c29, c30, c31, (.int .i64 0), c33, c34, c35, c36, c37, c38, c39, c40, c41, c42, c43, c44, c45, c46, c47, c48, c49, c50, c51, c52, c53, c54, c55, c56, c57, c58, c59, c60, c61, c62, c63, c64, c65, c66, c67, c68, c69, c70, c71, c72, c73, c74, c75, c76, c77, c78, c79, c80, c81, c82, c83, c84, c85, c86, c87, c88, c89, c90, c91, c92, c93, c94, c95, c96, c97, c98, c99, c100, c101, c102, c103, c104, c105, c106, c107, c108, c109, c110, c111, c112, c113, c114, c115, c116, c117, c118, c119, c120, c121, c122, c123, c124, c125, c126, c127, c128, c129, c130, c131, c132, c133, c134, c135, c136, c137, c138, c139, c140, c141, c142, c143, c144, c145, c146, c147, c148, c149, c150, c151, c152, c153, c154, c155, c156, c157, c158, c159, c160, c161, c162, c163, c164, c165, c166, c167, c168, c169, c170, c171, c172, c173, c174, c175, c176, c177, c178, c179, c180, c181, c182, c183, c184, c185, c186, c187, c188, c189, c190, c191, c192, c193, c194, c195, c196, c197, c198, c199, c200, c201, c202, c203, c204, c205, c206, c207, c208, c209, c210, c211, c212, c213, c214, c215, c216, c217, c218, c219, c220, c221, c222, c223, c224, c225, c226, c227, c228, c229, c230, c231, c232, c233, c234, c235, c236, c237, c238, c239, c240, c241, c242, c243, c244, c245, c246, c247, c248, c249, c250, c251, c252, c253, c254, c255, c256], []⟩ w := by
  refine outOf ?_
  conv => arg 2; whnf
  go_wp2
  go_loopw [32] (fun i wr => ∃ k : Nat, k ≤ 1 ∧ i = .int .i64 k ∧ wr = w) (fun i _ => 1 - (intOf i).toNat)
  case atStart => exact ⟨0, by omega, rfl, rfl⟩
  case round =>
    obtain ⟨k, hk, rfl, rfl⟩ := hrel
    by_cases hlt : k < 1
    · have P := hide (And.intro h1 (And.intro hax (And.intro hsg (And.intro hI hv))))
      clear hQ h1 hax hsg hI hv
      go_wp2
      obtain ⟨h1, hax, hsg, hI, hv⟩ := P.out
      refine inv_in S Ax Sg k C I wr wr _ hlt h1 hax hsg hI hv ?_
      rintro u12 u33 u34 u202 u203 u204 u205 u206 u207 u208 u209 u210 u211 u212 u213 u214 u215 u216 u217 u218 u219 u220 u221 u222 u223 u224 u225 u226 u227 w2 rfl
      clear h1 hax hsg hI hv P
      go_wp2
      go_roundw
      case rel => exact ⟨k + 1, by omega, by go_num, by trivial⟩
      case measure => simp [intOf]; omega
    · obtain rfl : k = 1 := by omega
      have hq := fun (u12 u32 u33 u34 u197 u198 u199 u200 u201 u202 u203 u204 u205 u206 u207 u208 u209 u210 u211 u212 u213 u214 u215 u216 u217 u218 u219 u220 u221 u222 u223 u224 u225 u226 u227 : Value) => hQ u12 u32 u33 u34 u197 u198 u199 u200 u201 u202 u203 u204 u205 u206 u207 u208 u209 u210 u211 u212 u213 u214 u215 u216 u217 u218 u219 u220 u221 u222 u223 u224 u225 u226 u227 _ rfl
      clear hQ hax hsg hI hv h1
      go_wp2
      exact hq .. 

end Go.Proofs.Ybulkbfeq.B1
