/- WRITTEN BY PROGRAM (gen.py): the loops of LawS2811CTwoRows. -/
import Derived.Test.YbulkbfeqSmall
import Derived.Test.YbulkbfeqKept
import Derived.WalkKit
import Derived.WalkSpells
import Derived.WalkLawsBesides
import Derived.Deep.OwnRows
import Derived.Deep.QuietTactic
import Derived.BigQuiet
import Derived.BigRegion
import Derived.Deep.RegionHeld3
import Derived.Deep.RegionWith
import Derived.Deep.DrawnRows
import Derived.Deep.DeepMust
import Derived.Test.YbulkbfeqFill
namespace Go.Proofs.Ybulkbfeq.Law2
open Go.RowKit
attribute [local go_sem] run_store_float
attribute [local go_sem ↓] Go.wp_at_zero Go.wp_at_succ
set_option linter.unusedVariables false
set_option maxRecDepth 1000000 in
set_option maxHeartbeats 4000000 in
theorem row_loop {c0 c1 c2 c3 c4 c5 c6 c7 c8 c10 c11 c12 c13 c14 c16 c17 c20 c21 c22 c23 c24 c25 c26 c27 c28 c29 c30 c31 c32 c33 c34 c35 c36 c37 c38 c39 c40 c41 c42 c43 c44 c45 c46 c47 c48 c49 c50 c51 c52 c53 c54 c55 c56 c57 c58 c59 c60 c61 c62 c63 c64 c65 c66 c67 c68 c69 c70 c71 c72 c73 c74 c75 c76 c77 c78 c79 c80 c81 c82 c83 c84 c85 c86 c87 c88 c89 c90 c91 c92 c93 c94 c95 c96 c97 c98 c99 c100 c101 c102 c103 c104 c105 c106 c107 c108 c109 c110 c111 c112 c113 c114 c115 c116 c117 c118 c119 c120 c121 c122 c123 c124 c125 c126 c127 c128 c129 c130 c131 c132 c133 c134 c135 c136 c137 c138 c139 c140 c141 c142 c143 c144 c145 c146 c147 c148 c149 c150 c151 c152 c153 c154 c155 c156 c157 c158 c159 c160 c161 c162 c163 c164 : Value} (S M r : Nat) (nm I : Nat → Nat) (w1 w : World) (Q : Exit → Act → World → Prop) (hr : r < 2) (h1 : w.cell? ⟨S, 1, none⟩ = some (.slice (some ⟨S + 1, 0, none⟩) 4 4)) (hM : ∀ i, i < 4 → w.cell? ⟨M, i, none⟩ = some (FV (nm i))) (hI : ∀ i, i < 4 → w.cell? ⟨S + 1, i, none⟩ = some (FV (I i))) (hv : ∀ c, c < 2 → okChk nm I r c)
    (hQ : ∀ (u4 u19 u20 u123 u124 u125 u126 u127 u128 u129 u130 u131 u132 u133 u134 u135 u136 u137 u138 u139 u140 u141 u142 u143 u144 u145 u146 u147 u148 u149 u150 u151 u152 u153 u154 u155 u156 u157 u158 : Value) (w' : World), (∃ q, w' = w.drewN q) → Q (.exit 8) ⟨#[c0, c1, c2, c3, u4, c5, c6, c7, c8, (.pointer (some ⟨M, 0, none⟩)), c10, c11, c12, c13, c14, (.pointer (some ⟨S, 0, none⟩)), c16, c17, (.int .i64 (r : Int)), u19, u20, c21, c22, c23, c24, c25, c26, c27, c28, c29, c30, c31, c32, c33, c34, c35, c36, c37, c38, c39, c40, c41, c42, c43, c44, c45, c46, c47, c48, c49, c50, c51, c52, c53, c54, c55, c56, c57, c58, c59, c60, c61, c62, c63, c64, c65, c66, c67, c68, c69, c70, c71, c72, c73, c74, c75, c76, c77, c78, c79, c80, c81, c82, c83, c84, c85, c86, c87, c88, c89, c90, c91, c92, c93, c94, c95, c96, c97, c98, c99, c100, c101, c102, c103, c104, c105, c106, c107, c108, c109, c110, c111, c112, c113, c114, c115, c116, c117, c118, c119, c120, c121, c122, u123, u124, u125, u126, u127, u128, u129, u130, u131, u132, u133, u134, u135, u136, u137, u138, u139, u140, u141, u142, u143, u144, u145, u146, u147, u148, u149, u150, u151, u152, u153, u154, u155, u156, u157, u158, c159, c160, c161, c162, c163, c164], []⟩ w') :
    Code.wp Yba.prog ((Yba.f4.body.bind (findBlock 8)).getD .skip) Q ⟨#[c0, c1, c2, c3, c4, c5, c6, c7, c8, (.pointer (some ⟨M, 0, none⟩)), c10, c11, c12, c13, c14, (.pointer (some ⟨S, 0, none⟩)), c16, c17, (.int .i64 (r : Int)), (.int .i64 0), c20, c21, c22, c23, c24, c25, c26, c27, c28, c29, c30, c31, c32, c33, c34, c35, c36, c37, c38, c39, c40, c41, c42, c43, c44, c45, c46, c47, c48, c49, c50, c51, c52, c53, c54, c55, c56, c57, c58, c59, c60, c61, c62, c63, c64, c65, c66, c67, c68, c69, c70, c71, c72, c73, c74, c75, c76, c77, c78, c79, c80, c81, c82, c83, c84, c85, c86, c87, c88, c89, c90, c91, c92, c93, c94, c95, c96, c97, c98, c99, c100, c101, c102, c103, c104, c105, c106, c107, c108, c109, c110, c111, c112, c113, c114, c115, c116, c117, c118, c119, c120, c121, c122, c123, c124, c125, c126, c127, c128, c129, c130, c131, c132, c133, c134, c135, c136, c137, c138, c139, c140, c141, c142, c143, c144, c145, c146, c147, c148, c149, c150, c151, c152, c153, c154, c155, c156, c157, c158, c159, c160, c161, c162, c163, c164], []⟩ w := by
  refine outOf ?_
  conv => arg 2; whnf
  go_wp2
  go_loopw [19] (fun i wr => ∃ k : Nat, k ≤ 2 ∧ i = .int .i64 k ∧ ∃ q, wr = w.drewN q) (fun i _ => 2 - (intOf i).toNat)
  case atStart => exact ⟨0, by omega, rfl, 0, rfl⟩
  case round =>
    obtain ⟨k, hk, rfl, q, rfl⟩ := hrel
    by_cases hlt : k < 2
    · have g1 := hM (r * 2) (by omega)
      have g2 := hM (r * 2 + 1) (by omega)
      have g3 := hI k (by omega)
      have g4 := hI (2 + k) (by omega)
      obtain ⟨m1, m2, m3, m4, m5⟩ := hv k hlt
      have f1 := run_fmul (P := Yba.prog) 26 _ _ m1
      have f2 := run_fmul (P := Yba.prog) 26 _ _ m2
      have f3 := run_fadd (P := Yba.prog) 26 _ _ m3
      generalize nm (r * 2) = x0 at g1 m3 m4 m5 f1 f3
      generalize nm (r * 2 + 1) = x1 at g2 m3 m4 m5 f2 f3
      generalize I k = y0 at g3 m3 m4 m5 f1 f3
      generalize I (2 + k) = y1 at g4 m3 m4 m5 f2 f3
      generalize fmul x0 y0 = p0 at m3 m4 m5 f1 f3
      generalize fmul x1 y1 = p1 at m3 m4 m5 f2 f3
      generalize fadd p0 p1 = sm at m4 m5 f3
      clear hQ hM hI hv m1 m2 m3
      have b1 : (0 : Int) ≤ (r : Int) * 2 := by omega
      have b2 : (r : Int) * 2 + 1 < 4 := by omega
      have b3 : (k : Int) < 4 := by omega
      have b4 : (2 : Int) + (k : Int) < 4 := by omega
      by_cases hrk : r = k
      · obtain ⟨m6, m7⟩ := m4 hrk
        have f4 := run_fsub (P := Yba.prog) 26 _ _ m6
        have hlt9 : (FloatKind.f64.format.order (fabs (fsub sm 4607182418800017408)) 4472406533629990549 == some Ordering.lt) = true := m7
        clear m4 m5 m6 m7
        generalize fsub sm 4607182418800017408 = d at f4 hlt9
        subst hrk
        go_wp2
        go_quiet (fail)
        go_wp2_with (go_at_call 8; refine (abs_at _ _).mono ?_; rintro e w' ⟨rfl, rfl⟩)
        go_roundw
        case rel => exact ⟨r + 1, by omega, by go_num, _, rfl⟩
        case measure => simp [intOf]; omega
      · have m7 := m5 hrk
        have hlt9 : (FloatKind.f64.format.order (fabs sm) 4472406533629990549 == some Ordering.lt) = true := m7
        have hne : ((r : Int) == (k : Int)) = false := by simpa using fun h => hrk (by omega)
        clear m4 m5 m7
        go_wp2
        go_quiet (fail)
        go_wp2_with (go_at_call 8; refine (abs_at _ _).mono ?_; rintro e w' ⟨rfl, rfl⟩)
        go_roundw
        case rel => exact ⟨k + 1, by omega, by go_num, _, rfl⟩
        case measure => simp [intOf]; omega
    · obtain rfl : k = 2 := by omega
      have hq := fun (u4 u19 u20 u123 u124 u125 u126 u127 u128 u129 u130 u131 u132 u133 u134 u135 u136 u137 u138 u139 u140 u141 u142 u143 u144 u145 u146 u147 u148 u149 u150 u151 u152 u153 u154 u155 u156 u157 u158 : Value) => hQ u4 u19 u20 u123 u124 u125 u126 u127 u128 u129 u130 u131 u132 u133 u134 u135 u136 u137 u138 u139 u140 u141 u142 u143 u144 u145 u146 u147 u148 u149 u150 u151 u152 u153 u154 u155 u156 u157 u158 _ ⟨q, rfl⟩
      clear hQ hM hI hv h1
      go_wp2
      exact hq .. 
set_option maxRecDepth 1000000 in
set_option maxHeartbeats 4000000 in
theorem rows_loop {c0 c1 c2 c3 c4 c5 c6 c7 c8 c10 c11 c12 c13 c14 c16 c17 c19 c20 c21 c22 c23 c24 c25 c26 c27 c28 c29 c30 c31 c32 c33 c34 c35 c36 c37 c38 c39 c40 c41 c42 c43 c44 c45 c46 c47 c48 c49 c50 c51 c52 c53 c54 c55 c56 c57 c58 c59 c60 c61 c62 c63 c64 c65 c66 c67 c68 c69 c70 c71 c72 c73 c74 c75 c76 c77 c78 c79 c80 c81 c82 c83 c84 c85 c86 c87 c88 c89 c90 c91 c92 c93 c94 c95 c96 c97 c98 c99 c100 c101 c102 c103 c104 c105 c106 c107 c108 c109 c110 c111 c112 c113 c114 c115 c116 c117 c118 c119 c120 c121 c122 c123 c124 c125 c126 c127 c128 c129 c130 c131 c132 c133 c134 c135 c136 c137 c138 c139 c140 c141 c142 c143 c144 c145 c146 c147 c148 c149 c150 c151 c152 c153 c154 c155 c156 c157 c158 c159 c160 c161 c162 c163 c164 : Value} (S M : Nat) (nm I X : Nat → Nat) (w1 w : World) (Q : Exit → Act → World → Prop) (h1 : w.cell? ⟨S, 1, none⟩ = some (.slice (some ⟨S + 1, 0, none⟩) 4 4)) (h3 : w.cell? ⟨S, 3, none⟩ = some (.slice (some ⟨S + 3, 0, none⟩) 2 2)) (hM : ∀ i, i < 4 → w.cell? ⟨M, i, none⟩ = some (FV (nm i))) (hI : ∀ i, i < 4 → w.cell? ⟨S + 1, i, none⟩ = some (FV (I i))) (hX : ∀ i, i < 2 → w.cell? ⟨S + 3, i, none⟩ = some (FV (X i))) (hv : ∀ r, r < 2 → ∀ c, c < 2 → okChk nm I r c) (hx0 : ∀ i, i < 2 → fne (X i) 0 = false)
    (hQ : ∀ (u4 u18 u19 u20 u119 u120 u121 u122 u123 u124 u125 u126 u127 u128 u129 u130 u131 u132 u133 u134 u135 u136 u137 u138 u139 u140 u141 u142 u143 u144 u145 u146 u147 u148 u149 u150 u151 u152 u153 u154 u155 u156 u157 u158 u159 u160 u161 u162 u163 u164 : Value) (w' : World), (∃ q, w' = w.drewN q) → Q (.exit 6) ⟨#[c0, c1, c2, c3, u4, c5, c6, c7, c8, (.pointer (some ⟨M, 0, none⟩)), c10, c11, c12, c13, c14, (.pointer (some ⟨S, 0, none⟩)), c16, c17, u18, u19, u20, c21, c22, c23, c24, c25, c26, c27, c28, c29, c30, c31, c32, c33, c34, c35, c36, c37, c38, c39, c40, c41, c42, c43, c44, c45, c46, c47, c48, c49, c50, c51, c52, c53, c54, c55, c56, c57, c58, c59, c60, c61, c62, c63, c64, c65, c66, c67, c68, c69, c70, c71, c72, c73, c74, c75, c76, c77, c78, c79, c80, c81, c82, c83, c84, c85, c86, c87, c88, c89, c90, c91, c92, c93, c94, c95, c96, c97, c98, c99, c100, c101, c102, c103, c104, c105, c106, c107, c108, c109, c110, c111, c112, c113, c114, c115, c116, c117, c118, u119, u120, u121, u122, u123, u124, u125, u126, u127, u128, u129, u130, u131, u132, u133, u134, u135, u136, u137, u138, u139, u140, u141, u142, u143, u144, u145, u146, u147, u148, u149, u150, u151, u152, u153, u154, u155, u156, u157, u158, u159, u160, u161, u162, u163, u164], []⟩ w') :
    Code.wp Yba.prog ((Yba.f4.body.bind (findBlock 6)).getD .skip) Q ⟨#[c0, c1, c2, c3, c4, c5, c6, c7, c8, (.pointer (some ⟨M, 0, none⟩)), c10, c11, c12, c13, c14, (.pointer (some ⟨S, 0, none⟩)), c16, c17, (.int .i64 0), c19, c20, c21, c22, c23, c24, c25, c26, c27, c28, c29, c30, c31, c32, c33, c34, c35, c36, c37, c38, c39, c40, c41, c42, c43, c44, c45, c46, c47, c48, c49, c50, c51, c52, c53, c54, c55, c56, c57, c58, c59, c60, c61, c62, c63, c64, c65, c66, c67, c68, c69, c70, c71, c72, c73, c74, c75, c76, c77, c78, c79, c80, c81, c82, c83, c84, c85, c86, c87, c88, c89, c90, c91, c92, c93, c94, c95, c96, c97, c98, c99, c100, c101, c102, c103, c104, c105, c106, c107, c108, c109, c110, c111, c112, c113, c114, c115, c116, c117, c118, c119, c120, c121, c122, c123, c124, c125, c126, c127, c128, c129, c130, c131, c132, c133, c134, c135, c136, c137, c138, c139, c140, c141, c142, c143, c144, c145, c146, c147, c148, c149, c150, c151, c152, c153, c154, c155, c156, c157, c158, c159, c160, c161, c162, c163, c164], []⟩ w := by
  refine outOf ?_
  conv => arg 2; whnf
  go_wp2
  go_loopw [18] (fun i wr => ∃ k : Nat, k ≤ 2 ∧ i = .int .i64 k ∧ ∃ q, wr = w.drewN q) (fun i _ => 2 - (intOf i).toNat)
  case atStart => exact ⟨0, by omega, rfl, 0, rfl⟩
  case round =>
    obtain ⟨k, hk, rfl, q, rfl⟩ := hrel
    by_cases hlt : k < 2
    · have P := hide (And.intro h1 (And.intro hM (And.intro hI (hv k hlt))))
      have g1 := hX k hlt
      have g2 : (FloatKind.f64.format.order (X k) 0 != some Ordering.eq) = false := hx0 k hlt
      generalize X k = x at g1 g2
      clear hQ h1 hM hI hX hv hx0
      go_wp2
      obtain ⟨h1, hM, hI, hv⟩ := P.out
      refine row_loop S M k nm I w (w.drewN q) _ hlt h1 hM hI hv ?_
      rintro u4 u19 u20 u123 u124 u125 u126 u127 u128 u129 u130 u131 u132 u133 u134 u135 u136 u137 u138 u139 u140 u141 u142 u143 u144 u145 u146 u147 u148 u149 u150 u151 u152 u153 u154 u155 u156 u157 u158 w2 ⟨q2, rfl⟩
      clear h1 hM hI hv P
      go_wp2
      go_roundw
      case rel => exact ⟨k + 1, by omega, by go_num, _, rfl⟩
      case measure => simp [intOf]; omega
    · obtain rfl : k = 2 := by omega
      have hq := fun (u4 u18 u19 u20 u119 u120 u121 u122 u123 u124 u125 u126 u127 u128 u129 u130 u131 u132 u133 u134 u135 u136 u137 u138 u139 u140 u141 u142 u143 u144 u145 u146 u147 u148 u149 u150 u151 u152 u153 u154 u155 u156 u157 u158 u159 u160 u161 u162 u163 u164 : Value) => hQ u4 u18 u19 u20 u119 u120 u121 u122 u123 u124 u125 u126 u127 u128 u129 u130 u131 u132 u133 u134 u135 u136 u137 u138 u139 u140 u141 u142 u143 u144 u145 u146 u147 u148 u149 u150 u151 u152 u153 u154 u155 u156 u157 u158 u159 u160 u161 u162 u163 u164 _ ⟨q, rfl⟩
      clear hQ hM hI hv h1 h3 hX hx0
      go_wp2
      exact hq .. 

end Go.Proofs.Ybulkbfeq.Law2
