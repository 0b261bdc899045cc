/- WRITTEN BY PROGRAM (gen.py): the loops of LawS2811CBoxCorner at dimension 3. -/
import Derived.Test.YbulkbfeqSmall
import Derived.Test.YbulkbfeqKept
import Derived.WalkKit
import Derived.WalkSpells
import Derived.WalkLawsBesides
import Derived.Deep.OwnRows
import Derived.Deep.QuietTactic
import Derived.BigQuiet
import Derived.BigRegion
import Derived.Deep.RegionHeld3
import Derived.Deep.RegionWith
import Derived.Deep.DrawnRows
import Derived.Deep.DeepMust
import Derived.Test.YbulkbfeqPick
namespace Go.Proofs.Ybulkbfeq.B3
open Go.RowKit
attribute [local go_sem] run_store_float
attribute [local go_sem ↓] Go.wp_at_zero Go.wp_at_succ
set_option linter.unusedVariables false
set_option maxRecDepth 1000000 in
set_option maxHeartbeats 4000000 in
theorem dup_loop {c0 c1 c2 c3 c4 c5 c6 c7 c8 c9 c10 c11 c12 c14 c15 c16 c18 c19 c20 c21 c22 c23 c24 c25 c26 c27 c28 c32 c33 c34 c35 c36 c37 c38 c39 c40 c41 c42 c43 c44 c45 c46 c47 c48 c49 c50 c51 c52 c53 c54 c55 c56 c57 c58 c59 c60 c61 c62 c63 c64 c65 c66 c67 c68 c69 c70 c71 c72 c73 c74 c75 c76 c77 c78 c79 c80 c81 c82 c83 c84 c85 c86 c87 c88 c89 c90 c91 c92 c93 c94 c95 c96 c97 c98 c99 c100 c101 c102 c103 c104 c105 c106 c107 c108 c109 c110 c111 c112 c113 c114 c115 c116 c117 c118 c119 c120 c121 c122 c123 c124 c125 c126 c127 c128 c129 c130 c131 c132 c133 c134 c135 c136 c137 c138 c139 c140 c141 c142 c143 c144 c145 c146 c147 c148 c149 c150 c151 c152 c153 c154 c155 c156 c157 c158 c159 c160 c161 c162 c163 c164 c165 c166 c167 c168 c169 c170 c171 c172 c173 c174 c175 c176 c177 c178 c179 c180 c181 c182 c183 c184 c185 c186 c187 c188 c189 c190 c191 c192 c193 c194 c195 c196 c197 c198 c199 c200 c201 c202 c203 c204 c205 c206 c207 c208 c209 c210 c211 c212 c213 c214 c215 c216 c217 c218 c219 c220 c221 c222 c223 c224 c225 c226 c227 c228 c229 c230 c231 c232 c233 c234 c235 c236 c237 c238 c239 c240 c241 c242 c243 c244 c245 c246 c247 c248 c249 c250 c251 c252 c253 c254 c255 c256 : Value} (Ax Z : Nat) (C : Nat → Nat) (w1 w : World) (Q : Exit → Act → World → Prop) (hne : Ax ≠ Z) (hC : ∀ r, r < 3 → C r < 6) (hax : ∀ i, i < 3 → w1.cell? ⟨Ax, i, none⟩ = some (.int .i64 ((C i / 2 : Nat) : Int))) (hb : Kept Z w1 w) (hz : w.rowIs Z 4 3 fun _ => .bool false)
    (hQ : ∀ (u31 u176 u177 u178 u179 u180 u181 u182 u183 u184 u185 u186 u187 u188 u189 u190 u191 u192 u193 : Value) (w' : World), Kept Z w1 w' → Q (.exit 6) ⟨#[c0, c1, c2, c3, c4, c5, c6, c7, c8, c9, c10, c11, c12, (.int .i64 3), c14, c15, c16, (.slice (some ⟨Ax, 0, none⟩) 3 3), c18, c19, c20, c21, c22, c23, c24, c25, c26, c27, c28, (.slice (some ⟨Z, 0, none⟩) 3 3), (.bool (dupB C 3)), u31, c32, c33, c34, c35, c36, c37, c38, c39, c40, c41, c42, c43, c44, c45, c46, c47, c48, c49, c50, c51, c52, c53, c54, c55, c56, c57, c58, c59, c60, c61, c62, c63, c64, c65, c66, c67, c68, c69, c70, c71, c72, c73, c74, c75, c76, c77, c78, c79, c80, c81, c82, c83, c84, c85, c86, c87, c88, c89, c90, c91, c92, c93, c94, c95, c96, c97, c98, c99, c100, c101, c102, c103, c104, c105, c106, c107, c108, c109, c110, c111, c112, c113, c114, c115, c116, c117, c118, c119, c120, c121, c122, c123, c124, c125, c126, c127, c128, c129, c130, c131, c132, c133, c134, c135, c136, c137, c138, c139, c140, c141, c142, c143, c144, c145, c146, c147, c148, c149, c150, c151, c152, c153, c154, c155, c156, c157, c158, c159, c160, c161, c162, c163, c164, c165, c166, c167, c168, c169, c170, c171, c172, c173, c174, c175, u176, u177, u178, u179, u180, u181, u182, u183, u184, u185, u186, u187, u188, u189, u190, u191, u192, u193, c194, c195, c196, c197, c198, c199, c200, c201, c202, c203, c204, c205, c206, c207, c208, c209, c210, c211, c212, c213, c214, c215, c216, c217, c218, c219, c220, c221, c222, c223, c224, c225, c226, c227, c228, c229, c230, c231, c232, c233, c234, c235, c236, c237, c238, c239, c240, c241, c242, c243, c244, c245, c246, c247, c248, c249, c250, c251, c252, c253, c254, c255, c256], []⟩ w') :
    Code.wp Yba.prog ((Yba.f3.body.bind (findBlock 6)).getD .skip) Q ⟨#[c0, c1, c2, c3, c4, c5, c6, c7, c8, c9, c10, c11, c12, (.int .i64 3), c14, c15, c16, (.slice (some ⟨Ax, 0, none⟩) 3 3), c18, c19, c20, c21, c22, c23, c24, c25, c26, c27, c28, (.slice (some ⟨Z, 0, none⟩) 3 3), (.bool false), (.int .i64 0), c32, c33, c34, c35, c36, c37, c38, c39, c40, c41, c42, c43, c44, c45, c46, c47, c48, c49, c50, c51, c52, c53, c54, c55, c56, c57, c58, c59, c60, c61, c62, c63, c64, c65, c66, c67, c68, c69, c70, c71, c72, c73, c74, c75, c76, c77, c78, c79, c80, c81, c82, c83, c84, c85, c86, c87, c88, c89, c90, c91, c92, c93, c94, c95, c96, c97, c98, c99, c100, c101, c102, c103, c104, c105, c106, c107, c108, c109, c110, c111, c112, c113, c114, c115, c116, c117, c118, c119, c120, c121, c122, c123, c124, c125, c126, c127, c128, c129, c130, c131, c132, c133, c134, c135, c136, c137, c138, c139, c140, c141, c142, c143, c144, c145, c146, c147, c148, c149, c150, c151, c152, c153, c154, c155, c156, c157, c158, c159, c160, c161, c162, c163, c164, c165, c166, c167, c168, c169, c170, c171, c172, c173, c174, c175, c176, c177, c178, c179, c180, c181, c182, c183, c184, c185, c186, c187, c188, c189, c190, c191, c192, c193, c194, c195, c196, c197, c198, c199, c200, c201, c202, c203, c204, c205, c206, c207, c208, c209, c210, c211, c212, c213, c214, c215, c216, c217, c218, c219, c220, c221, c222, c223, c224, c225, c226, c227, c228, c229, c230, c231, c232, c233, c234, c235, c236, c237, c238, c239, c240, c241, c242, c243, c244, c245, c246, c247, c248, c249, c250, c251, c252, c253, c254, c255, c256], []⟩ w := by
  refine outOf ?_
  conv => arg 2; whnf
  go_wp2
  go_loopw [30, 31] (fun d i wr => ∃ k : Nat, k ≤ 3 ∧ i = .int .i64 k ∧ d = .bool (dupB C k) ∧ Kept Z w1 wr ∧ wr.rowIs Z 4 3 fun i => .bool (seenB C k i)) (fun _ i _ => 3 - (intOf i).toNat)
  case atStart => exact ⟨0, by omega, rfl, rfl, hb, hz⟩
  case round =>
    obtain ⟨k, hk, rfl, rfl, hbr, hr⟩ := hrel
    by_cases hlt : k < 3
    · have hCk := hC k hlt
      have g3 : wr.cell? ⟨Ax, k, none⟩ = some (.int .i64 ((C k / 2 : Nat) : Int)) := (hbr.cell (a := ⟨Ax, k, none⟩) (by show Ax ≠ Z; exact hne)).trans (hax k hlt)
      have x1 := hr.cell (i := C k / 2) (by omega)
      have z1 := hr.frozen (C k / 2)
      have R := hr.set (C k / 2) (.bool true)
      have HS := hide (fun i => seen_step C k i)
      have HD : Hid (dupB C (k + 1) = (dupB C k || seenB C k (C k / 2))) := rfl
      generalize hi2 : C k / 2 = i2 at g3 x1 z1 R HS HD
      have hi2D : (i2 : Int) < 3 := by omega
      generalize dupB C k = dk at HD ⊢
      have hne' : Z ≠ Ax := fun h => hne h.symm
      cases hsn : seenB C k i2 with
      | true =>
        rw [hsn] at x1 HD
        clear hQ hax hb hz hr hC hsn hi2 hCk
        go_wp2
        go_roundw
        case rel => exact ⟨k + 1, by omega, by go_num, by rw [HD.out, Bool.or_true], hbr.setCell _ _, R.congr fun i _ => HS.out i⟩
        case measure => simp [intOf]; omega
      | false =>
        rw [hsn] at x1 HD
        clear hQ hax hb hz hr hC hsn hi2 hCk
        go_wp2
        go_roundw
        case rel => exact ⟨k + 1, by omega, by go_num, by rw [HD.out, Bool.or_false], hbr.setCell _ _, R.congr fun i _ => HS.out i⟩
        case measure => simp [intOf]; omega
    · obtain rfl : k = 3 := by omega
      have hq := fun (u31 u176 u177 u178 u179 u180 u181 u182 u183 u184 u185 u186 u187 u188 u189 u190 u191 u192 u193 : Value) => hQ u31 u176 u177 u178 u179 u180 u181 u182 u183 u184 u185 u186 u187 u188 u189 u190 u191 u192 u193 wr hbr
      clear hQ hax hb hz hr hC
      generalize dupB C 3 = dk at hq ⊢
      go_wp2
      exact hq .. 

end Go.Proofs.Ybulkbfeq.B3
