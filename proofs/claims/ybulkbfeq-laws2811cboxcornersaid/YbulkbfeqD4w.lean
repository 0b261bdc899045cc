/- WRITTEN BY PROGRAM (gen.py): the loops of (*simplex).begin at dimension 4. -/
import Derived.Test.YbulkbfeqSmall
import Derived.Test.YbulkbfeqKept
import Derived.WalkKit
import Derived.WalkSpells
import Derived.WalkLawsBesides
import Derived.Deep.OwnRows
import Derived.Deep.QuietTactic
import Derived.BigQuiet
import Derived.BigRegion
import Derived.Deep.RegionHeld3
import Derived.Deep.RegionWith
import Derived.Deep.DrawnRows
import Derived.Deep.DeepMust
import Derived.Test.YbulkbfeqBox
import Derived.Test.YbulkbfeqR16
namespace Go.Proofs.Ybulkbfeq.D4
open Go.RowKit
attribute [local go_sem] run_store_float
attribute [local go_sem ↓] Go.wp_at_zero Go.wp_at_succ
set_option linter.unusedVariables false
set_option maxRecDepth 1000000 in
set_option maxHeartbeats 4000000 in
theorem fillB_loop {c1 c2 c5 c6 c7 c8 c9 c10 c11 c12 c16 c17 c18 c19 c20 c21 c22 c23 c24 c25 c26 c27 c28 c29 c30 c31 c32 c33 c34 c35 c36 c37 c38 c39 c40 c41 c42 c43 c44 c45 c49 c50 c51 c52 c53 c54 c55 c56 c57 c58 c59 c60 c61 c62 c63 c64 c65 c66 c67 c68 c69 c70 c71 c72 c73 c74 c75 c76 c77 c78 c79 c80 c81 c82 c83 c84 c85 c86 c87 c88 c89 c90 c91 c92 c93 c94 c95 c96 c97 c98 c99 c100 c101 c102 c103 c104 c105 c106 c107 c108 c109 c110 c111 c112 c113 c114 c115 c116 c117 c118 c119 c120 c121 c122 c123 c124 c125 c126 c127 c128 c129 c130 c131 c132 c133 c134 c135 c136 c137 c138 c139 c140 c141 c142 c143 c144 c145 c146 c147 c148 c149 c150 c151 c152 c153 c154 c155 c156 c157 c158 c159 c160 c161 c162 c163 c164 c165 c166 c167 c168 c169 c170 c171 c172 c173 c174 c175 c176 c177 c178 c179 c180 c181 c182 c183 c184 c185 c186 c187 c188 c189 c190 c191 c192 c193 c194 c195 c196 c197 c198 c199 c200 c201 c202 c203 c204 c205 c206 c207 c208 c209 c210 c211 c212 c213 c214 c215 c216 c217 c218 c219 c220 c221 c222 c223 c224 c225 c226 c227 c228 c229 c230 c231 c232 c233 c234 c235 c236 c237 c238 c239 c240 c241 c242 c243 c244 c245 c246 c247 c248 c249 c250 c251 c252 c253 c254 c255 c256 c257 c258 c259 c260 c261 c262 c263 c264 c265 c266 c267 c268 c269 c270 c271 c272 c273 c274 c275 c276 c277 c278 c279 c280 c281 c282 c283 c284 c285 c286 c287 c288 c289 c290 c291 c292 c293 c294 c295 c296 c297 c298 c299 c300 c301 c302 c303 c304 c305 c306 c307 c308 c309 c310 c311 c312 c313 c314 c315 c316 c317 c318 c319 c320 c321 c322 c323 c324 c325 c326 c327 c328 c329 c330 c331 c332 c333 c334 c335 c336 c337 c338 c339 c340 c341 c342 c343 c344 c345 c346 c347 c348 c349 c350 c351 c352 c353 c354 c355 c356 c357 c358 c359 c360 c361 c362 c363 c364 : Value} (S N St Lb Hb m : Nat) (C : Nat → Nat) (Lo Hi B X : Nat → Nat) (Ba : Nat → Int) (w1 w : World) (Q : Exit → Act → World → Prop) (hSS : St < S) (hLS : Lb < S) (hHS : Hb < S) (hSN : S + 7 < N) (hC : ∀ r, r < 4 → C r < 8) (hm : m ≤ 1000) (hb : Below (S + 2) w1 w) (hcell2 : w1.cell? ⟨S, 2, none⟩ = some (.slice (some ⟨S + 2, 0, none⟩) 4 4)) (hcell7 : w1.cell? ⟨S, 7, none⟩ = some (.slice (some ⟨S + 7, 0, none⟩) 4 4)) (hstart : ∀ r, r < 4 → w1.cell? ⟨St, r, none⟩ = some (.int .i64 ((m + C r : Nat) : Int))) (hLo : ∀ i, i < 4 → w1.cell? ⟨Lb, i, none⟩ = some (FV (Lo i))) (hHi : ∀ i, i < 4 → w1.cell? ⟨Hb, i, none⟩ = some (FV (Hi i))) (hN : w.rowIs N 26 32 fun _ => FV 0) (hB : w.rowIs (S + 2) 26 4 fun i => FV (B i)) (hX : w.rowIs (S + 3) 26 4 fun i => FV (X i)) (hBa : w.rowIs (S + 7) 3 4 fun i => .int .i64 (Ba i))
    (hQ : ∀ (u16 u17 u18 u19 u48 u49 u50 u51 u52 u53 u54 u55 u56 u57 u58 u59 u60 u61 u62 u63 u64 u65 u66 u67 u68 u69 u70 u71 u72 u73 u74 u75 u76 u77 u78 u79 u80 u81 u82 u83 u84 u85 u86 u87 u88 u89 u90 u91 u92 u93 u94 u95 u96 u97 u98 u99 u100 u101 u102 u103 u104 u105 u106 u107 u108 u109 u110 u111 u112 u113 u114 u115 u116 u117 u118 u119 u120 u121 u122 u123 u124 u125 u126 u127 u128 u129 u130 u131 u132 u133 u134 : Value) (w' : World), Below (S + 2) w1 w' → (w'.rowIs N 26 32 fun i => FV (fillB 4 C 4 i)) → (w'.rowIs (S + 2) 26 4 fun i => FV (if i < 4 then (if C i % 2 = 0 then Hi (C i / 2) else fneg (Lo (C i / 2))) else B i)) → (w'.rowIs (S + 3) 26 4 fun i => FV (X i)) → (w'.rowIs (S + 7) 3 4 fun i => .int .i64 (if i < 4 then ((m + C i : Nat) : Int) else Ba i)) → Q (.exit 0) ⟨#[(.pointer (some ⟨S, 0, none⟩)), c1, c2, (.slice (some ⟨Lb, 0, none⟩) 4 4), (.slice (some ⟨Hb, 0, none⟩) 4 4), c5, c6, c7, c8, c9, c10, c11, c12, (.int .i64 4), (.int .i64 (m : Int)), (.slice (some ⟨N, 0, none⟩) 32 32), u16, u17, u18, u19, c20, c21, c22, c23, c24, c25, c26, c27, c28, c29, c30, c31, c32, c33, c34, c35, c36, c37, c38, c39, c40, c41, c42, c43, c44, c45, (.slice (some ⟨St, 0, none⟩) 4 4), (.int .i64 4), u48, u49, u50, u51, u52, u53, u54, u55, u56, u57, u58, u59, u60, u61, u62, u63, u64, u65, u66, u67, u68, u69, u70, u71, u72, u73, u74, u75, u76, u77, u78, u79, u80, u81, u82, u83, u84, u85, u86, u87, u88, u89, u90, u91, u92, u93, u94, u95, u96, u97, u98, u99, u100, u101, u102, u103, u104, u105, u106, u107, u108, u109, u110, u111, u112, u113, u114, u115, u116, u117, u118, u119, u120, u121, u122, u123, u124, u125, u126, u127, u128, u129, u130, u131, u132, u133, u134, c135, c136, c137, c138, c139, c140, c141, c142, c143, c144, c145, c146, c147, c148, c149, c150, c151, c152, c153, c154, c155, c156, c157, c158, c159, c160, c161, c162, c163, c164, c165, c166, c167, c168, c169, c170, c171, c172, c173, c174, c175, c176, c177, c178, c179, c180, c181, c182, c183, c184, c185, c186, c187, c188, c189, c190, c191, c192, c193, c194, c195, c196, c197, c198, c199, c200, c201, c202, c203, c204, c205, c206, c207, c208, c209, c210, c211, c212, c213, c214, c215, c216, c217, c218, c219, c220, c221, c222, c223, c224, c225, c226, c227, c228, c229, c230, c231, c232, c233, c234, c235, c236, c237, c238, c239, c240, c241, c242, c243, c244, c245, c246, c247, c248, c249, c250, c251, c252, c253, c254, c255, c256, c257, c258, c259, c260, c261, c262, c263, c264, c265, c266, c267, c268, c269, c270, c271, c272, c273, c274, c275, c276, c277, c278, c279, c280, c281, c282, c283, c284, c285, c286, c287, c288, c289, c290, c291, c292, c293, c294, c295, c296, c297, c298, c299, c300, c301, c302, c303, c304, c305, c306, c307, c308, c309, c310, c311, c312, c313, c314, c315, c316, c317, c318, c319, c320, c321, c322, c323, c324, c325, c326, c327, c328, c329, c330, c331, c332, c333, c334, c335, c336, c337, c338, c339, c340, c341, c342, c343, c344, c345, c346, c347, c348, c349, c350, c351, c352, c353, c354, c355, c356, c357, c358, c359, c360, c361, c362, c363, c364], []⟩ w') :
    Code.wp Yba.prog ((Yba.f7.body.bind (findBlock 0)).getD .skip) Q ⟨#[(.pointer (some ⟨S, 0, none⟩)), c1, c2, (.slice (some ⟨Lb, 0, none⟩) 4 4), (.slice (some ⟨Hb, 0, none⟩) 4 4), c5, c6, c7, c8, c9, c10, c11, c12, (.int .i64 4), (.int .i64 (m : Int)), (.slice (some ⟨N, 0, none⟩) 32 32), c16, c17, c18, c19, c20, c21, c22, c23, c24, c25, c26, c27, c28, c29, c30, c31, c32, c33, c34, c35, c36, c37, c38, c39, c40, c41, c42, c43, c44, c45, (.slice (some ⟨St, 0, none⟩) 4 4), (.int .i64 4), (.int .i64 0), c49, c50, c51, c52, c53, c54, c55, c56, c57, c58, c59, c60, c61, c62, c63, c64, c65, c66, c67, c68, c69, c70, c71, c72, c73, c74, c75, c76, c77, c78, c79, c80, c81, c82, c83, c84, c85, c86, c87, c88, c89, c90, c91, c92, c93, c94, c95, c96, c97, c98, c99, c100, c101, c102, c103, c104, c105, c106, c107, c108, c109, c110, c111, c112, c113, c114, c115, c116, c117, c118, c119, c120, c121, c122, c123, c124, c125, c126, c127, c128, c129, c130, c131, c132, c133, c134, c135, c136, c137, c138, c139, c140, c141, c142, c143, c144, c145, c146, c147, c148, c149, c150, c151, c152, c153, c154, c155, c156, c157, c158, c159, c160, c161, c162, c163, c164, c165, c166, c167, c168, c169, c170, c171, c172, c173, c174, c175, c176, c177, c178, c179, c180, c181, c182, c183, c184, c185, c186, c187, c188, c189, c190, c191, c192, c193, c194, c195, c196, c197, c198, c199, c200, c201, c202, c203, c204, c205, c206, c207, c208, c209, c210, c211, c212, c213, c214, c215, c216, c217, c218, c219, c220, c221, c222, c223, c224, c225, c226, c227, c228, c229, c230, c231, c232, c233, c234, c235, c236, c237, c238, c239, c240, c241, c242, c243, c244, c245, c246, c247, c248, c249, c250, c251, c252, c253, c254, c255, c256, c257, c258, c259, c260, c261, c262, c263, c264, c265, c266, c267, c268, c269, c270, c271, c272, c273, c274, c275, c276, c277, c278, c279, c280, c281, c282, c283, c284, c285, c286, c287, c288, c289, c290, c291, c292, c293, c294, c295, c296, c297, c298, c299, c300, c301, c302, c303, c304, c305, c306, c307, c308, c309, c310, c311, c312, c313, c314, c315, c316, c317, c318, c319, c320, c321, c322, c323, c324, c325, c326, c327, c328, c329, c330, c331, c332, c333, c334, c335, c336, c337, c338, c339, c340, c341, c342, c343, c344, c345, c346, c347, c348, c349, c350, c351, c352, c353, c354, c355, c356, c357, c358, c359, c360, c361, c362, c363, c364], []⟩ w := by
  refine outOf ?_
  conv => arg 2; whnf
  go_wp2
  go_loopw [48] (fun i wr => ∃ k : Nat, k ≤ 4 ∧ i = .int .i64 k ∧ Below (S + 2) w1 wr ∧ (wr.rowIs N 26 32 fun i => FV (fillB 4 C k i)) ∧ (wr.rowIs (S + 2) 26 4 fun i => FV (if i < k then (if C i % 2 = 0 then Hi (C i / 2) else fneg (Lo (C i / 2))) else B i)) ∧ (wr.rowIs (S + 3) 26 4 fun i => FV (X i)) ∧ (wr.rowIs (S + 7) 3 4 fun i => .int .i64 (if i < k then ((m + C i : Nat) : Int) else Ba i))) (fun i _ => 4 - (intOf i).toNat)
  case atStart => exact ⟨0, by omega, rfl, hb, hN.congr (fun i _ => by rw [fillB_zero]), hB.congr (fun i _ => by simp), hX, hBa.congr (fun i _ => by simp)⟩
  case round =>
    obtain ⟨k, hk, rfl, hbr, r1, r2, r3, r4⟩ := hrel
    by_cases hlt : k < 4
    · have G := hide (And.intro ((hbr.cell (p := ⟨S, 2, none⟩) (by show S < S + 2; omega)).trans hcell2) ((hbr.cell (p := ⟨S, 7, none⟩) (by show S < S + 2; omega)).trans hcell7))
      have gs : wr.cell? ⟨St, k, none⟩ = some (.int .i64 ((m : Int) + (C k : Int))) := (hbr.cell (p := ⟨St, k, none⟩) (by show St < S + 2; omega)).trans ((hstart k hlt).trans (by rw [Int.natCast_add]))
      have HL : Hid (∀ i, i < 4 → wr.cell? ⟨Lb, i, none⟩ = some (FV (Lo i))) := fun i hi => (hbr.cell (p := ⟨Lb, i, none⟩) (by show Lb < S + 2; omega)).trans (hLo i hi)
      have HH : Hid (∀ i, i < 4 → wr.cell? ⟨Hb, i, none⟩ = some (FV (Hi i))) := fun i hi => (hbr.cell (p := ⟨Hb, i, none⟩) (by show Hb < S + 2; omega)).trans (hHi i hi)
      have hCk := hC k hlt
      have HF := hide (fun i => fillB_step 4 C k i hlt hCk)
      have x0 := r1.cell (i := k * 2 * 4 + C k / 2) (by omega)
      have z0 := r1.frozen (k * 2 * 4 + C k / 2)
      generalize hv0 : FV _ = v0 at x0
      have H1 := hide r1
      have H2 := hide r2
      have H3 := hide r3
      have H4 := hide r4
      clear hQ hb hcell2 hcell7 hstart hLo hHi hN hB hX hBa hC r1 r2 r3 r4 hv0
      generalize hCc : C k = c at gs hCk HF x0 z0
      have HC := hide hCc
      clear hCc
      obtain ⟨i2, hi2⟩ : ∃ i2, i2 = c / 2 := ⟨_, rfl⟩
      rw [← hi2] at x0 z0 HF
      have HI := hide hi2
      have hdv : ((m : Int) + (c : Int) - (m : Int)) / 2 = (i2 : Int) := by omega
      have hi2D : i2 < 4 := by omega
      clear hi2
      have hnlt : ¬ ((m : Int) + (c : Int) < (m : Int)) := by omega
      by_cases hpar : c % 2 = 0
      · have hp2 : (((m : Int) + (c : Int) - (m : Int)) % 2 == 0) = true := by simp; omega
        go_wp2
        have e2 : (wr.setCell ⟨N, k * 2 * 4 + i2, none⟩ (FV 4607182418800017408)).cell? ⟨S, 2, none⟩ = some (.slice (some ⟨S + 2, 0, none⟩) 4 4) := (((Kept.refl N wr).setCell _ _).cell (by show S ≠ N; omega)).trans G.out.1
        have e3 : (wr.setCell ⟨N, k * 2 * 4 + i2, none⟩ (FV 4607182418800017408)).cell? ⟨Hb, i2, none⟩ = some (FV (Hi (i2))) := (((Kept.refl N wr).setCell _ _).cell (by show Hb ≠ N; omega)).trans (HH.out (i2) (by omega))
        have r2 := ((Kept.refl N wr).setCell (k * 2 * 4 + i2) (FV 4607182418800017408)).row H2.out (by omega)
        refine hi_region S Hb (S + 2) 4 4 k (i2) (Hi (i2)) _ _ _ (by omega) (by omega) e2 e3 (r2.cell (i := k) hlt) (r2.frozen k) ?_
        intro u112 u113 u114 u115 u116 u117 u118 u119 u120 u121 w2 hw2
        have r1 := H1.out.set (k * 2 * 4 + i2) (FV 4607182418800017408)
        have q1 : w2.rowIs N 26 32 fun j => if j = k * 2 * 4 + i2 then FV 4607182418800017408 else FV (fillB 4 C k j) := by rw [hw2]; exact (r1.setOther (by show N ≠ S + 2; omega) _).drew
        have q2 : w2.rowIs (S + 2) 26 4 fun i => if i = k then FV (Hi (i2)) else FV (if i < k then (if C i % 2 = 0 then Hi (C i / 2) else fneg (Lo (C i / 2))) else B i) := by rw [hw2]; exact (r2.set k _).drew
        have q3 : w2.rowIs (S + 3) 26 4 fun i => FV (X i) := by rw [hw2]; exact ((H3.out.setOther (by show S + 3 ≠ N; omega) _).setOther (by show S + 3 ≠ S + 2; omega) _).drew
        have q4 : w2.rowIs (S + 7) 3 4 fun i => .int .i64 (if i < k then ((m + C i : Nat) : Int) else Ba i) := by rw [hw2]; exact ((H4.out.setOther (by show S + 7 ≠ N; omega) _).setOther (by show S + 7 ≠ S + 2; omega) _).drew
        have qb : Below (S + 2) w1 w2 := by rw [hw2]; exact ((hbr.setCell (by show S + 2 ≤ N; omega) _).setCell (by show S + 2 ≤ S + 2; omega) _).drew
        have g7 : w2.cell? ⟨S, 7, none⟩ = some (.slice (some ⟨S + 7, 0, none⟩) 4 4) := by
          rw [hw2]
          show ((wr.setCell _ _).setCell _ _).cell? _ = _
          rw [World.cell?_setCell_other _ _ _ _ (by simp), World.cell?_setCell_other _ _ _ _ (by simp <;> omega)]
          exact G.out.2
        obtain ⟨v1, x1⟩ : ∃ v, w2.cell? ⟨N, k * 2 * 4 + (4 + k), none⟩ = some v := ⟨_, q1.cell (i := k * 2 * 4 + (4 + k)) (by omega)⟩
        have z1 := q1.frozen (k * 2 * 4 + (4 + k))
        obtain ⟨v4, x4⟩ : ∃ v, w2.cell? ⟨S + 7, k, none⟩ = some v := ⟨_, q4.cell (i := k) hlt⟩
        have z4 := q4.frozen k
        have J := hide (And.intro q1 (And.intro q2 (And.intro q3 (And.intro q4 qb))))
        clear hw2 r1 r2 q1 q2 q3 q4 qb e2 e3 G H1 H2 H3 H4 HL HH gs
        go_wp2
        go_roundw
        case rel =>
          obtain ⟨q1, q2, q3, q4, qb⟩ := J.out
          refine ⟨k + 1, by omega, by go_num, (qb.setCell (by show S + 2 ≤ N; omega) _).setCell (by show S + 2 ≤ S + 7; omega) _, ?_, ?_, ?_, ?_⟩
          · refine ((q1.set (k * 2 * 4 + (4 + k)) _).setOther (by show N ≠ S + 7; omega) _).congr fun i _ => ?_
            have HF2 := HF.out i
            rw [if_pos hpar] at HF2
            rw [← HF2]
            split
            · rfl
            · split <;> rfl
          · refine ((q2.setOther (by show S + 2 ≠ N; omega) _).setOther (by show S + 2 ≠ S + 7; omega) _).congr fun i _ => ?_
            exact set_upto FV k i (Hi (i2)) (fun i => (if C i % 2 = 0 then Hi (C i / 2) else fneg (Lo (C i / 2)))) B (by simp only [HC.out, ← HI.out, hpar, if_true])
          · exact (q3.setOther (by show S + 3 ≠ N; omega) _).setOther (by show S + 3 ≠ S + 7; omega) _
          · refine ((q4.setOther (by show S + 7 ≠ N; omega) _).set k _).congr fun i _ => ?_
            exact set_upto (Value.int .i64) k i ((m : Int) + (c : Int)) (fun i => ((m + C i : Nat) : Int)) Ba (by simp only [HC.out]; omega)
        case measure => simp [intOf]; omega
      · have hp2 : (((m : Int) + (c : Int) - (m : Int)) % 2 == 0) = false := by simp; omega
        go_wp2
        have e2 : (wr.setCell ⟨N, k * 2 * 4 + i2, none⟩ (FV 13830554455654793216)).cell? ⟨S, 2, none⟩ = some (.slice (some ⟨S + 2, 0, none⟩) 4 4) := (((Kept.refl N wr).setCell _ _).cell (by show S ≠ N; omega)).trans G.out.1
        have e3 : (wr.setCell ⟨N, k * 2 * 4 + i2, none⟩ (FV 13830554455654793216)).cell? ⟨Lb, i2, none⟩ = some (FV (Lo (i2))) := (((Kept.refl N wr).setCell _ _).cell (by show Lb ≠ N; omega)).trans (HL.out (i2) (by omega))
        have r2 := ((Kept.refl N wr).setCell (k * 2 * 4 + i2) (FV 13830554455654793216)).row H2.out (by omega)
        refine lo_region S Lb (S + 2) 4 4 k (i2) (Lo (i2)) _ _ _ (by omega) (by omega) e2 e3 (r2.cell (i := k) hlt) (r2.frozen k) ?_
        intro u71 u72 u73 u74 u75 u76 u77 u78 u79 u80 u81 w2 hw2
        have r1 := H1.out.set (k * 2 * 4 + i2) (FV 13830554455654793216)
        have q1 : w2.rowIs N 26 32 fun j => if j = k * 2 * 4 + i2 then FV 13830554455654793216 else FV (fillB 4 C k j) := by rw [hw2]; exact (r1.setOther (by show N ≠ S + 2; omega) _).drew
        have q2 : w2.rowIs (S + 2) 26 4 fun i => if i = k then FV (fneg (Lo (i2))) else FV (if i < k then (if C i % 2 = 0 then Hi (C i / 2) else fneg (Lo (C i / 2))) else B i) := by rw [hw2]; exact (r2.set k _).drew
        have q3 : w2.rowIs (S + 3) 26 4 fun i => FV (X i) := by rw [hw2]; exact ((H3.out.setOther (by show S + 3 ≠ N; omega) _).setOther (by show S + 3 ≠ S + 2; omega) _).drew
        have q4 : w2.rowIs (S + 7) 3 4 fun i => .int .i64 (if i < k then ((m + C i : Nat) : Int) else Ba i) := by rw [hw2]; exact ((H4.out.setOther (by show S + 7 ≠ N; omega) _).setOther (by show S + 7 ≠ S + 2; omega) _).drew
        have qb : Below (S + 2) w1 w2 := by rw [hw2]; exact ((hbr.setCell (by show S + 2 ≤ N; omega) _).setCell (by show S + 2 ≤ S + 2; omega) _).drew
        have g7 : w2.cell? ⟨S, 7, none⟩ = some (.slice (some ⟨S + 7, 0, none⟩) 4 4) := by
          rw [hw2]
          show ((wr.setCell _ _).setCell _ _).cell? _ = _
          rw [World.cell?_setCell_other _ _ _ _ (by simp), World.cell?_setCell_other _ _ _ _ (by simp <;> omega)]
          exact G.out.2
        obtain ⟨v1, x1⟩ : ∃ v, w2.cell? ⟨N, k * 2 * 4 + (4 + k), none⟩ = some v := ⟨_, q1.cell (i := k * 2 * 4 + (4 + k)) (by omega)⟩
        have z1 := q1.frozen (k * 2 * 4 + (4 + k))
        obtain ⟨v4, x4⟩ : ∃ v, w2.cell? ⟨S + 7, k, none⟩ = some v := ⟨_, q4.cell (i := k) hlt⟩
        have z4 := q4.frozen k
        have J := hide (And.intro q1 (And.intro q2 (And.intro q3 (And.intro q4 qb))))
        clear hw2 r1 r2 q1 q2 q3 q4 qb e2 e3 G H1 H2 H3 H4 HL HH gs
        go_wp2
        go_roundw
        case rel =>
          obtain ⟨q1, q2, q3, q4, qb⟩ := J.out
          refine ⟨k + 1, by omega, by go_num, (qb.setCell (by show S + 2 ≤ N; omega) _).setCell (by show S + 2 ≤ S + 7; omega) _, ?_, ?_, ?_, ?_⟩
          · refine ((q1.set (k * 2 * 4 + (4 + k)) _).setOther (by show N ≠ S + 7; omega) _).congr fun i _ => ?_
            have HF2 := HF.out i
            rw [if_neg hpar] at HF2
            rw [← HF2]
            split
            · rfl
            · split <;> rfl
          · refine ((q2.setOther (by show S + 2 ≠ N; omega) _).setOther (by show S + 2 ≠ S + 7; omega) _).congr fun i _ => ?_
            exact set_upto FV k i (fneg (Lo (i2))) (fun i => (if C i % 2 = 0 then Hi (C i / 2) else fneg (Lo (C i / 2)))) B (by simp only [HC.out, ← HI.out, hpar, if_false])
          · exact (q3.setOther (by show S + 3 ≠ N; omega) _).setOther (by show S + 3 ≠ S + 7; omega) _
          · refine ((q4.setOther (by show S + 7 ≠ N; omega) _).set k _).congr fun i _ => ?_
            exact set_upto (Value.int .i64) k i ((m : Int) + (c : Int)) (fun i => ((m + C i : Nat) : Int)) Ba (by simp only [HC.out]; omega)
        case measure => simp [intOf]; omega
    · obtain rfl : k = 4 := by omega
      have hq := fun (u16 u17 u18 u19 u48 u49 u50 u51 u52 u53 u54 u55 u56 u57 u58 u59 u60 u61 u62 u63 u64 u65 u66 u67 u68 u69 u70 u71 u72 u73 u74 u75 u76 u77 u78 u79 u80 u81 u82 u83 u84 u85 u86 u87 u88 u89 u90 u91 u92 u93 u94 u95 u96 u97 u98 u99 u100 u101 u102 u103 u104 u105 u106 u107 u108 u109 u110 u111 u112 u113 u114 u115 u116 u117 u118 u119 u120 u121 u122 u123 u124 u125 u126 u127 u128 u129 u130 u131 u132 u133 u134 : Value) => hQ u16 u17 u18 u19 u48 u49 u50 u51 u52 u53 u54 u55 u56 u57 u58 u59 u60 u61 u62 u63 u64 u65 u66 u67 u68 u69 u70 u71 u72 u73 u74 u75 u76 u77 u78 u79 u80 u81 u82 u83 u84 u85 u86 u87 u88 u89 u90 u91 u92 u93 u94 u95 u96 u97 u98 u99 u100 u101 u102 u103 u104 u105 u106 u107 u108 u109 u110 u111 u112 u113 u114 u115 u116 u117 u118 u119 u120 u121 u122 u123 u124 u125 u126 u127 u128 u129 u130 u131 u132 u133 u134 wr hbr r1 r2 r3 r4
      clear hQ hb hcell2 hcell7 hstart hLo hHi hN hB hX hBa hC r1 r2 r3 r4
      go_wp2
      exact hq .. 

end Go.Proofs.Ybulkbfeq.D4
