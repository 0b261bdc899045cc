/- WRITTEN BY PROGRAM (gen.py): the loops of (*simplex).begin at dimension 1. -/
import Derived.Test.YbulkbfeqSmall
import Derived.Test.YbulkbfeqKept
import Derived.WalkKit
import Derived.WalkSpells
import Derived.WalkLawsBesides
import Derived.Deep.OwnRows
import Derived.Deep.QuietTactic
import Derived.BigQuiet
import Derived.BigRegion
import Derived.Deep.RegionHeld3
import Derived.Deep.RegionWith
import Derived.Deep.DrawnRows
import Derived.Deep.DeepMust
import Derived.Test.YbulkbfeqD1h
namespace Go.Proofs.Ybulkbfeq.D1
open Go.RowKit
attribute [local go_sem] run_store_float
attribute [local go_sem ↓] Go.wp_at_zero Go.wp_at_succ
set_option linter.unusedVariables false
set_option maxRecDepth 1000000 in
set_option maxHeartbeats 4000000 in
theorem wts_loop {c1 c2 c3 c4 c6 c7 c8 c9 c10 c11 c12 c14 c15 c16 c17 c18 c19 c20 c21 c22 c23 c24 c25 c26 c27 c28 c29 c30 c31 c32 c33 c34 c35 c36 c37 c38 c39 c40 c41 c42 c43 c44 c45 c46 c47 c48 c49 c50 c51 c52 c53 c54 c55 c56 c57 c58 c59 c60 c61 c62 c63 c64 c65 c66 c67 c68 c69 c70 c71 c72 c73 c74 c75 c76 c77 c78 c79 c80 c81 c82 c83 c84 c85 c86 c87 c88 c89 c90 c91 c92 c93 c94 c95 c96 c97 c98 c99 c100 c101 c102 c103 c104 c105 c106 c107 c108 c109 c110 c111 c112 c113 c114 c115 c116 c117 c118 c119 c120 c121 c122 c123 c124 c125 c126 c127 c128 c129 c130 c131 c132 c133 c134 c135 c136 c137 c138 c139 c140 c141 c142 c143 c144 c145 c146 c147 c148 c149 c150 c151 c152 c153 c154 c155 c156 c157 c158 c159 c160 c161 c162 c163 c164 c165 c166 c167 c168 c169 c170 c171 c172 c173 c174 c175 c176 c177 c178 c179 c180 c181 c182 c183 c184 c185 c186 c187 c188 c189 c190 c191 c192 c193 c194 c195 c196 c197 c198 c199 c200 c201 c202 c203 c204 c205 c206 c207 c208 c209 c210 c211 c212 c213 c214 c215 c216 c217 c218 c219 c220 c221 c222 c223 c224 c225 c226 c227 c228 c229 c230 c231 c232 c233 c234 c235 c236 c237 c238 c239 c240 c241 c242 c243 c244 c245 c246 c247 c248 c249 c250 c251 c252 c253 c254 c255 c256 c257 c258 c259 c260 c261 c262 c263 c264 c265 c266 c267 c268 c269 c270 c271 c272 c273 c274 c275 c276 c277 c278 c279 c280 c281 c282 c283 c284 c285 c286 c287 c288 c289 c290 c291 c292 c293 c294 c295 c296 c297 c298 c299 c300 c301 c302 c303 c304 c305 c306 c307 c308 c309 c310 c311 c312 c313 c314 c315 c316 c317 c318 c319 c320 c321 c322 c323 c324 c325 c326 c327 c330 c331 c332 c333 c334 c335 c336 c337 c338 c339 c340 c341 c342 c343 c344 c345 c346 c347 c348 c349 c350 c351 c352 c353 c354 c355 c356 c357 c358 c359 c360 c361 c362 c363 c364 : Value} (S V : Nat) (I W X : Nat → Nat) (w1 w : World) (Q : Exit → Act → World → Prop) (hVS : V < S) (hb : Kept (S + 3) w1 w) (hcell1 : w1.cell? ⟨S, 1, none⟩ = some (.slice (some ⟨S + 1, 0, none⟩) 1 1)) (hcell3 : w1.cell? ⟨S, 3, none⟩ = some (.slice (some ⟨S + 3, 0, none⟩) 1 1)) (hI : w1.rowIs (S + 1) 26 1 fun i => FV (I i)) (hX : w.rowIs (S + 3) 26 1 fun i => FV (X i)) (hV : ∀ i, i < 1 → w1.cell? ⟨V, i, none⟩ = some (FV (W i))) (hv : ∀ j, j < 1 → (∀ i, i < j → flt (sumN 1 i I W 1) 0 = false) → okSum 1 j I W)
    (hQ : ∀ (u12 u30 u31 u32 u329 u330 u331 u332 u333 u334 u335 u336 u337 u338 u339 u340 u341 u342 u343 u344 u345 u346 u347 u348 u349 u350 u351 u352 u353 u354 u355 u356 u357 u358 u359 u360 u361 u362 u363 u364 : Value) (w' : World), Kept (S + 3) w1 w' → (w'.rowIs (S + 3) 26 1 fun i => FV (wtJ 1 1 I W X i)) → (∀ i, i < 1 → flt (sumN 1 i I W 1) 0 = false) → Q (.exit 17) ⟨#[(.pointer (some ⟨S, 0, none⟩)), c1, c2, c3, c4, (.slice (some ⟨V, 0, none⟩) 1 1), c6, c7, c8, c9, c10, c11, u12, (.int .i64 1), c14, c15, c16, c17, c18, c19, c20, c21, c22, c23, c24, c25, c26, c27, c28, c29, u30, u31, u32, c33, c34, c35, c36, c37, c38, c39, c40, c41, c42, c43, c44, c45, c46, c47, c48, c49, c50, c51, c52, c53, c54, c55, c56, c57, c58, c59, c60, c61, c62, c63, c64, c65, c66, c67, c68, c69, c70, c71, c72, c73, c74, c75, c76, c77, c78, c79, c80, c81, c82, c83, c84, c85, c86, c87, c88, c89, c90, c91, c92, c93, c94, c95, c96, c97, c98, c99, c100, c101, c102, c103, c104, c105, c106, c107, c108, c109, c110, c111, c112, c113, c114, c115, c116, c117, c118, c119, c120, c121, c122, c123, c124, c125, c126, c127, c128, c129, c130, c131, c132, c133, c134, c135, c136, c137, c138, c139, c140, c141, c142, c143, c144, c145, c146, c147, c148, c149, c150, c151, c152, c153, c154, c155, c156, c157, c158, c159, c160, c161, c162, c163, c164, c165, c166, c167, c168, c169, c170, c171, c172, c173, c174, c175, c176, c177, c178, c179, c180, c181, c182, c183, c184, c185, c186, c187, c188, c189, c190, c191, c192, c193, c194, c195, c196, c197, c198, c199, c200, c201, c202, c203, c204, c205, c206, c207, c208, c209, c210, c211, c212, c213, c214, c215, c216, c217, c218, c219, c220, c221, c222, c223, c224, c225, c226, c227, c228, c229, c230, c231, c232, c233, c234, c235, c236, c237, c238, c239, c240, c241, c242, c243, c244, c245, c246, c247, c248, c249, c250, c251, c252, c253, c254, c255, c256, c257, c258, c259, c260, c261, c262, c263, c264, c265, c266, c267, c268, c269, c270, c271, c272, c273, c274, c275, c276, c277, c278, c279, c280, c281, c282, c283, c284, c285, c286, c287, c288, c289, c290, c291, c292, c293, c294, c295, c296, c297, c298, c299, c300, c301, c302, c303, c304, c305, c306, c307, c308, c309, c310, c311, c312, c313, c314, c315, c316, c317, c318, c319, c320, c321, c322, c323, c324, c325, c326, c327, (.int .i64 1), u329, u330, u331, u332, u333, u334, u335, u336, u337, u338, u339, u340, u341, u342, u343, u344, u345, u346, u347, u348, u349, u350, u351, u352, u353, u354, u355, u356, u357, u358, u359, u360, u361, u362, u363, u364], []⟩ w')
    (hR : ∀ (u30 u31 u32 u329 u330 u331 u332 u333 u334 u335 u336 u337 u338 u339 u340 u341 u342 u343 u344 u345 u346 u347 u348 u349 u350 u351 u352 u353 u354 u355 u356 u357 u358 u359 u360 u361 u362 u363 u364 : Value) (w' : World) (j : Nat), j < 1 → Kept (S + 3) w1 w' → (w'.rowIs (S + 3) 26 1 fun i => FV (wtJ 1 j I W X i)) → (∀ i, i < j → flt (sumN 1 i I W 1) 0 = false) → flt (sumN 1 j I W 1) 0 = true → Q .ret ⟨#[(.pointer (some ⟨S, 0, none⟩)), c1, c2, c3, c4, (.slice (some ⟨V, 0, none⟩) 1 1), c6, c7, c8, c9, c10, c11, (.bool false), (.int .i64 1), c14, c15, c16, c17, c18, c19, c20, c21, c22, c23, c24, c25, c26, c27, c28, c29, u30, u31, u32, c33, c34, c35, c36, c37, c38, c39, c40, c41, c42, c43, c44, c45, c46, c47, c48, c49, c50, c51, c52, c53, c54, c55, c56, c57, c58, c59, c60, c61, c62, c63, c64, c65, c66, c67, c68, c69, c70, c71, c72, c73, c74, c75, c76, c77, c78, c79, c80, c81, c82, c83, c84, c85, c86, c87, c88, c89, c90, c91, c92, c93, c94, c95, c96, c97, c98, c99, c100, c101, c102, c103, c104, c105, c106, c107, c108, c109, c110, c111, c112, c113, c114, c115, c116, c117, c118, c119, c120, c121, c122, c123, c124, c125, c126, c127, c128, c129, c130, c131, c132, c133, c134, c135, c136, c137, c138, c139, c140, c141, c142, c143, c144, c145, c146, c147, c148, c149, c150, c151, c152, c153, c154, c155, c156, c157, c158, c159, c160, c161, c162, c163, c164, c165, c166, c167, c168, c169, c170, c171, c172, c173, c174, c175, c176, c177, c178, c179, c180, c181, c182, c183, c184, c185, c186, c187, c188, c189, c190, c191, c192, c193, c194, c195, c196, c197, c198, c199, c200, c201, c202, c203, c204, c205, c206, c207, c208, c209, c210, c211, c212, c213, c214, c215, c216, c217, c218, c219, c220, c221, c222, c223, c224, c225, c226, c227, c228, c229, c230, c231, c232, c233, c234, c235, c236, c237, c238, c239, c240, c241, c242, c243, c244, c245, c246, c247, c248, c249, c250, c251, c252, c253, c254, c255, c256, c257, c258, c259, c260, c261, c262, c263, c264, c265, c266, c267, c268, c269, c270, c271, c272, c273, c274, c275, c276, c277, c278, c279, c280, c281, c282, c283, c284, c285, c286, c287, c288, c289, c290, c291, c292, c293, c294, c295, c296, c297, c298, c299, c300, c301, c302, c303, c304, c305, c306, c307, c308, c309, c310, c311, c312, c313, c314, c315, c316, c317, c318, c319, c320, c321, c322, c323, c324, c325, c326, c327, (.int .i64 1), u329, u330, u331, u332, u333, u334, u335, u336, u337, u338, u339, u340, u341, u342, u343, u344, u345, u346, u347, u348, u349, u350, u351, u352, u353, u354, u355, u356, u357, u358, u359, u360, u361, u362, u363, u364], []⟩ w') :
    Code.wp Yba.prog ((Yba.f7.body.bind (findBlock 17)).getD .skip) Q ⟨#[(.pointer (some ⟨S, 0, none⟩)), c1, c2, c3, c4, (.slice (some ⟨V, 0, none⟩) 1 1), c6, c7, c8, c9, c10, c11, c12, (.int .i64 1), c14, c15, c16, c17, c18, c19, c20, c21, c22, c23, c24, c25, c26, c27, c28, c29, c30, c31, c32, c33, c34, c35, c36, c37, c38, c39, c40, c41, c42, c43, c44, c45, c46, c47, c48, c49, c50, c51, c52, c53, c54, c55, c56, c57, c58, c59, c60, c61, c62, c63, c64, c65, c66, c67, c68, c69, c70, c71, c72, c73, c74, c75, c76, c77, c78, c79, c80, c81, c82, c83, c84, c85, c86, c87, c88, c89, c90, c91, c92, c93, c94, c95, c96, c97, c98, c99, c100, c101, c102, c103, c104, c105, c106, c107, c108, c109, c110, c111, c112, c113, c114, c115, c116, c117, c118, c119, c120, c121, c122, c123, c124, c125, c126, c127, c128, c129, c130, c131, c132, c133, c134, c135, c136, c137, c138, c139, c140, c141, c142, c143, c144, c145, c146, c147, c148, c149, c150, c151, c152, c153, c154, c155, c156, c157, c158, c159, c160, c161, c162, c163, c164, c165, c166, c167, c168, c169, c170, c171, c172, c173, c174, c175, c176, c177, c178, c179, c180, c181, c182, c183, c184, c185, c186, c187, c188, c189, c190, c191, c192, c193, c194, c195, c196, c197, c198, c199, c200, c201, c202, c203, c204, c205, c206, c207, c208, c209, c210, c211, c212, c213, c214, c215, c216, c217, c218, c219, c220, c221, c222, c223, c224, c225, c226, c227, c228, c229, c230, c231, c232, c233, c234, c235, c236, c237, c238, c239, c240, c241, c242, c243, c244, c245, c246, c247, c248, c249, c250, c251, c252, c253, c254, c255, c256, c257, c258, c259, c260, c261, c262, c263, c264, c265, c266, c267, c268, c269, c270, c271, c272, c273, c274, c275, c276, c277, c278, c279, c280, c281, c282, c283, c284, c285, c286, c287, c288, c289, c290, c291, c292, c293, c294, c295, c296, c297, c298, c299, c300, c301, c302, c303, c304, c305, c306, c307, c308, c309, c310, c311, c312, c313, c314, c315, c316, c317, c318, c319, c320, c321, c322, c323, c324, c325, c326, c327, (.int .i64 1), (.int .i64 0), c330, c331, c332, c333, c334, c335, c336, c337, c338, c339, c340, c341, c342, c343, c344, c345, c346, c347, c348, c349, c350, c351, c352, c353, c354, c355, c356, c357, c358, c359, c360, c361, c362, c363, c364], []⟩ w := by
  refine outOf ?_
  conv => arg 2; whnf
  go_wp2
  go_loopw [329] (fun i wr => ∃ k : Nat, k ≤ 1 ∧ i = .int .i64 k ∧ Kept (S + 3) w1 wr ∧ (wr.rowIs (S + 3) 26 1 fun i => FV (wtJ 1 k I W X i)) ∧ Hid (∀ i, i < k → flt (sumN 1 i I W 1) 0 = false)) (fun i _ => 1 - (intOf i).toNat)
  case atStart => exact ⟨0, by omega, rfl, hb, hX.congr (fun i _ => by rw [wtJ_zero]), fun i hi => by omega⟩
  case round =>
    obtain ⟨k, hk, rfl, hbr, hr, hs⟩ := hrel
    by_cases hlt : k < 1
    · have h1 : wr.cell? ⟨S, 1, none⟩ = _ := (hbr.cell (by show S ≠ S + 3; omega)).trans hcell1
      have h3 : wr.cell? ⟨S, 3, none⟩ = some (.slice (some ⟨S + 3, 0, none⟩) 1 1) := (hbr.cell (by show S ≠ S + 3; omega)).trans hcell3
      have HI : Hid (wr.rowIs (S + 1) 26 1 fun i => FV (I i)) := hbr.row hI (by omega)
      have HV : Hid (∀ i, i < 1 → wr.cell? ⟨V, i, none⟩ = some (FV (W i))) := fun i hi => (hbr.cell (by show V ≠ S + 3; omega)).trans (hV i hi)
      have HO : Hid (okSum 1 k I W) := hv k hlt hs.out
      have HR := hide hR
      have H1 := hide h1
      clear hQ hb hcell1 hcell3 hI hX hV hv hR h1
      go_wp2
      refine sum_loop S V k I W w1 wr _ hlt H1.out HI.out HV.out HO.out ?_
      rintro u32 u333 u334 u335 u336 u337 u338 u339 u340 u341 u342 u343 u344 u345 u346 u347 u348 u349 u350 u351 u352 u353 u354 w2 ⟨q, rfl⟩
      have hcell := hr.cell (i := k) hlt
      have hfz := hr.frozen k
      have R := hr.set k (FV (sumN 1 k I W 1))
      have HT := hide (fun i => wt_step 1 k I W X i)
      have HW := hide hr
      have HK := hide hbr
      generalize hsum : sumN 1 k I W 1 = s at R HT ⊢
      have HS := hide hsum
      clear H1 HI HV HO hsum hr hbr
      generalize wtJ 1 k I W X k = old at hcell
      go_wp2
      · have hf : flt s 0 = true := by assumption
        exact HR.out _ _ _ _ _ _ _ _ _ _ _ _ _ _ _ _ _ _ _ _ _ _ _ _ _ _ _ _ _ _ _ _ _ _ _ _ _ _ _ _ k hlt (HK.out.drewN q) HW.out hs.out (by rw [HS.out]; exact hf)
      · have hf : flt s 0 = false := by assumption
        go_roundw
        case rel =>
          refine ⟨k + 1, by omega, by go_num, (HK.out.setCell k _).drewN q, R.congr fun i _ => ?_, fun i hi => ?_⟩
          · rw [← HT.out i]; split <;> rfl
          · rcases Nat.lt_succ_iff_lt_or_eq.1 hi with h | h
            · exact hs.out i h
            · rw [h, HS.out]; exact hf
        case measure => simp [intOf]; omega
    · obtain rfl : k = 1 := by omega
      have hq := fun (u12 u30 u31 u32 u329 u330 u331 u332 u333 u334 u335 u336 u337 u338 u339 u340 u341 u342 u343 u344 u345 u346 u347 u348 u349 u350 u351 u352 u353 u354 u355 u356 u357 u358 u359 u360 u361 u362 u363 u364 : Value) => hQ u12 u30 u31 u32 u329 u330 u331 u332 u333 u334 u335 u336 u337 u338 u339 u340 u341 u342 u343 u344 u345 u346 u347 u348 u349 u350 u351 u352 u353 u354 u355 u356 u357 u358 u359 u360 u361 u362 u363 u364 wr hbr hr hs
      clear hQ hb hcell1 hcell3 hI hX hV hv hR hr
      go_wp2
      exact hq .. 

end Go.Proofs.Ybulkbfeq.D1
