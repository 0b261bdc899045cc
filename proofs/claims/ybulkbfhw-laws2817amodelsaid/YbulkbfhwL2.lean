/- WRITTEN BY PROGRAM (gen17.py): the loop of LawS2817AModel that lays which label goes on. -/
import Derived.Test.YbulkbfhwFollows
namespace Go.Proofs.Ybulkbfhw
open Go.RowKit
attribute [local go_sem ↓] Go.wp_at_zero Go.wp_at_succ
set_option linter.unusedVariables false

set_option maxRecDepth 1000000 in
set_option maxHeartbeats 4000000 in
theorem fol_loop {c0 c1 c2 c3 c4 c5 c6 c8 c9 c11 c12 c13 c14 c17 c18 c19 c20 c23 c24 c25 c26 c27 c28 c29 c30 c31 c32 c33 c34 c35 c36 c37 c38 c39 c40 c41 c42 c43 c44 c45 c46 c47 c48 c49 c50 c51 c52 c53 c54 c55 c56 c57 c58 c59 c60 c61 c62 c63 c64 c65 c66 c67 c68 c69 c70 c71 c72 c73 c74 c75 c76 c77 c78 c79 c80 c81 c82 c83 c84 c85 c86 c87 c88 c89 c90 c91 c92 c93 c94 c95 c96 c97 c98 c99 c100 c101 c102 c103 c104 c105 c106 c107 c108 c109 c110 c111 c112 c113 c114 c115 c116 c117 c118 c119 c120 c121 c122 c123 c124 c125 c126 c127 c128 c129 c130 c131 c132 c133 c134 c135 c136 c137 c138 c139 c140 c141 c142 c143 c144 c145 c146 c147 c148 c149 c150 c151 c152 c153 c154 c155 c156 c157 c158 c159 c160 c161 c162 c163 c164 c165 c166 c167 c168 c169 c170 c171 c172 c173 c174 c175 c176 c177 c178 c179 c180 c181 c182 c183 c184 c185 c186 c187 c188 c189 c190 c191 c192 c193 c194 c195 c196 c197 c198 c199 c200 c201 c202 c203 c204 c205 c206 c207 c208 c209 c210 c211 c212 c213 c214 c215 c216 c217 c218 c219 c220 c221 c222 c223 c224 c225 c226 c227 c228 c229 c230 c231 c232 c233 c234 c235 c236 c237 c238 c239 c240 c241 c242 c243 c244 c245 c246 c247 c248 c249 c250 c251 c252 c253 c254 c255 c256 c257 c258 c259 c260 c261 c262 c263 c264 c265 c266 c267 c268 c269 c270 c271 c272 c273 c274 c275 c276 c277 c278 c279 c280 c281 c282 c283 c284 c285 c286 c287 c288 c289 c290 c291 c292 c293 c294 c295 c296 c297 : Value} (Sb Lb Zb K n : Nat) (ex : Int) (st lab : Nat → Int) (w1 w : World) (Q : Exit → Act → World → Prop) (hn : n ≤ 1024) (hK : K ≤ 1024) (hK0 : 0 < K) (hst0 : st 0 = 0) (hst : ∀ i, i < K → 0 ≤ st i) (hex : 0 ≤ ex ∧ ex ≤ 100) (hlab : ∀ i, i < n → 0 ≤ lab i ∧ lab i ≤ 100000) (hLZ : Lb ≠ Zb) (hSZ : Sb ≠ Zb) (hs : ∀ i, i < K → w1.cell? ⟨Sb, i, none⟩ = some (.int .i32 (st i))) (hl : ∀ i, i < n → w1.cell? ⟨Lb, i, none⟩ = some (.int .i32 (lab i))) (hb : Kept Zb w1 w) (hr : w.rowIs Zb 4 n fun _ => .bool false)
    (hQ : ∀ (u22 u23 u24 u25 u26 u27 u28 u124 u125 u126 u127 u128 u129 u130 u131 u132 u133 u134 u135 u136 u137 u138 u139 u140 u141 u142 u143 u144 u145 u146 u147 u148 u149 u150 u151 u152 u153 u154 u155 u156 u157 u158 u159 u160 u161 u162 u163 u164 u165 u166 u167 u168 u169 u170 u171 u172 u173 u174 u175 u176 u177 u178 u179 u180 u181 u182 u183 u184 u185 u186 u187 : Value) (w' : World), Kept Zb w1 w' → (w'.rowIs Zb 4 n fun i => .bool (if i < n then folB st K ex lab n i else false)) → Q (.exit 4) ⟨#[c0, c1, c2, c3, c4, c5, c6, (.int .i32 ex), c8, c9, (.slice (some ⟨Sb, 0, none⟩) K K), c11, c12, c13, c14, (.int .i64 (n : Int)), (.slice (some ⟨Lb, 0, none⟩) n n), c17, c18, c19, c20, (.slice (some ⟨Zb, 0, none⟩) n n), u22, u23, u24, u25, u26, u27, u28, c29, c30, c31, c32, c33, c34, c35, c36, c37, c38, c39, c40, c41, c42, c43, c44, c45, c46, c47, c48, c49, c50, c51, c52, c53, c54, c55, c56, c57, c58, c59, c60, c61, c62, c63, c64, c65, c66, c67, c68, c69, c70, c71, c72, c73, c74, c75, c76, c77, c78, c79, c80, c81, c82, c83, c84, c85, c86, c87, c88, c89, c90, c91, c92, c93, c94, c95, c96, c97, c98, c99, c100, c101, c102, c103, c104, c105, c106, c107, c108, c109, c110, c111, c112, c113, c114, c115, c116, c117, c118, c119, c120, c121, c122, c123, u124, u125, u126, u127, u128, u129, u130, u131, u132, u133, u134, u135, u136, u137, u138, u139, u140, u141, u142, u143, u144, u145, u146, u147, u148, u149, u150, u151, u152, u153, u154, u155, u156, u157, u158, u159, u160, u161, u162, u163, u164, u165, u166, u167, u168, u169, u170, u171, u172, u173, u174, u175, u176, u177, u178, u179, u180, u181, u182, u183, u184, u185, u186, u187, c188, c189, c190, c191, c192, c193, c194, c195, c196, c197, c198, c199, c200, c201, c202, c203, c204, c205, c206, c207, c208, c209, c210, c211, c212, c213, c214, c215, c216, c217, c218, c219, c220, c221, c222, c223, c224, c225, c226, c227, c228, c229, c230, c231, c232, c233, c234, c235, c236, c237, c238, c239, c240, c241, c242, c243, c244, c245, c246, c247, c248, c249, c250, c251, c252, c253, c254, c255, c256, c257, c258, c259, c260, c261, c262, c263, c264, c265, c266, c267, c268, c269, c270, c271, c272, c273, c274, c275, c276, c277, c278, c279, c280, c281, c282, c283, c284, c285, c286, c287, c288, c289, c290, c291, c292, c293, c294, c295, c296, c297], []⟩ w') :
    Code.wp Yba.prog ((Yba.f3.body.bind (findBlock 4)).getD .skip) Q ⟨#[c0, c1, c2, c3, c4, c5, c6, (.int .i32 ex), c8, c9, (.slice (some ⟨Sb, 0, none⟩) K K), c11, c12, c13, c14, (.int .i64 (n : Int)), (.slice (some ⟨Lb, 0, none⟩) n n), c17, c18, c19, c20, (.slice (some ⟨Zb, 0, none⟩) n n), (.int .i64 0), c23, c24, c25, c26, c27, c28, c29, c30, c31, c32, c33, c34, c35, c36, c37, c38, c39, c40, c41, c42, c43, c44, c45, c46, c47, c48, c49, c50, c51, c52, c53, c54, c55, c56, c57, c58, c59, c60, c61, c62, c63, c64, c65, c66, c67, c68, c69, c70, c71, c72, c73, c74, c75, c76, c77, c78, c79, c80, c81, c82, c83, c84, c85, c86, c87, c88, c89, c90, c91, c92, c93, c94, c95, c96, c97, c98, c99, c100, c101, c102, c103, c104, c105, c106, c107, c108, c109, c110, c111, c112, c113, c114, c115, c116, c117, c118, c119, c120, c121, c122, c123, c124, c125, c126, c127, c128, c129, c130, c131, c132, c133, c134, c135, c136, c137, c138, c139, c140, c141, c142, c143, c144, c145, c146, c147, c148, c149, c150, c151, c152, c153, c154, c155, c156, c157, c158, c159, c160, c161, c162, c163, c164, c165, c166, c167, c168, c169, c170, c171, c172, c173, c174, c175, c176, c177, c178, c179, c180, c181, c182, c183, c184, c185, c186, c187, c188, c189, c190, c191, c192, c193, c194, c195, c196, c197, c198, c199, c200, c201, c202, c203, c204, c205, c206, c207, c208, c209, c210, c211, c212, c213, c214, c215, c216, c217, c218, c219, c220, c221, c222, c223, c224, c225, c226, c227, c228, c229, c230, c231, c232, c233, c234, c235, c236, c237, c238, c239, c240, c241, c242, c243, c244, c245, c246, c247, c248, c249, c250, c251, c252, c253, c254, c255, c256, c257, c258, c259, c260, c261, c262, c263, c264, c265, c266, c267, c268, c269, c270, c271, c272, c273, c274, c275, c276, c277, c278, c279, c280, c281, c282, c283, c284, c285, c286, c287, c288, c289, c290, c291, c292, c293, c294, c295, c296, c297], []⟩ w := by
  refine outOf ?_
  conv => arg 2; whnf
  go_wp2
  go_loopw [22] (fun i wr => ∃ k : Nat, k ≤ n ∧ i = .int .i64 k ∧ Kept Zb w1 wr ∧ (wr.rowIs Zb 4 n fun i => .bool (if i < k then folB st K ex lab n i else false))) (fun i _ => n - (intOf i).toNat)
  case atStart => exact ⟨0, by omega, rfl, hb, hr.congr (fun i _ => by simp)⟩
  case round =>
    obtain ⟨k, hk, rfl, hbr, hrr⟩ := hrel
    by_cases hlt : k < n
    · obtain ⟨v1, x1⟩ : ∃ v, wr.cell? ⟨Zb, k, none⟩ = some v := ⟨_, hrr.cell hlt⟩
      have z1 := hrr.frozen k
      have hp : (k + n - 1) % n < n := Nat.mod_lt _ (by omega)
      have hpp : ((k : Int) + (n : Int) - 1) % (n : Int) = (((k + n - 1) % n : Nat) : Int) := by
        have e : (k : Int) + (n : Int) - 1 = ((k + n - 1 : Nat) : Int) := by omega
        rw [e]; omega
      have hfk : folB st K ex lab n k = ((decide (ex ≤ lab k) && decide (ex ≤ lab ((k + n - 1) % n))) && (decide (lab k = lab ((k + n - 1) % n) + 1) && (lastLE st (lab k - ex) K == lastLE st (lab ((k + n - 1) % n) - ex) K))) := rfl
      have HR := hide (fun v (hv : v = folB st K ex lab n k) => (hrr.set k (.bool v)).congr fun i _ => set_upto Value.bool k i v (folB st K ex lab n) (fun _ => false) hv)
      generalize (k + n - 1) % n = p at hp hpp hfk
      have c1 : wr.cell? ⟨Lb, k, none⟩ = some (.int .i32 (lab k)) := (hbr.cell (a := ⟨Lb, k, none⟩) (by show Lb ≠ Zb; exact hLZ)).trans (hl k hlt)
      have c2 : wr.cell? ⟨Lb, p, none⟩ = some (.int .i32 (lab p)) := (hbr.cell (a := ⟨Lb, p, none⟩) (by show Lb ≠ Zb; exact hLZ)).trans (hl p hp)
      have bl := hlab k hlt
      have bb := hlab p hp
      have hkN : (k : Int) < (n : Int) := by omega
      have hpN : (p : Int) < (n : Int) := by omega
      have hnz : ((n : Int) == 0) = false := by simp; omega
      have HB := hide hbr
      have HF := hide hrr
      by_cases h1 : ex ≤ lab k ∧ ex ≤ lab p
      · obtain ⟨h1, h2⟩ := h1
        have HKy : Hid (∀ (j : Int) (q : Nat), Calls Yba.prog 7 #[.slice (some ⟨Sb, 0, none⟩) K K, .int .i32 j] (wr.drewN q) fun e w' => e = .returned (.int .i64 (lastLE st j K)) ∧ wr.drewN q = w') := fun j q => zkey_any Sb K st j (wr.drewN q) (by omega) (fun i hi => (hbr.cell (a := ⟨Sb, i, none⟩) (by show Sb ≠ Zb; exact hSZ)).trans (hs i hi))
        rw [decide_eq_true h1, decide_eq_true h2, Bool.true_and, Bool.true_and] at hfk
        have ge1 := lastLE_nonneg st (lab k - ex) K hK0 (by omega)
        have ge2 := lastLE_nonneg st (lab p - ex) K hK0 (by omega)
        have lo1 := lastLE_lo st (lab k - ex) K
        have lo2 := lastLE_lo st (lab p - ex) K
        have at1 := lastLE_at st (lab k - ex) K ge1
        have at2 := lastLE_at st (lab p - ex) K ge2
        obtain ⟨a, ha⟩ : ∃ a : Nat, lastLE st (lab k - ex) K = (a : Int) := ⟨_, (Int.toNat_of_nonneg ge1).symm⟩
        obtain ⟨b, hb'⟩ : ∃ b : Nat, lastLE st (lab p - ex) K = (b : Int) := ⟨_, (Int.toNat_of_nonneg ge2).symm⟩
        have HK1 := hide (fun q => HKy.out (lab k - ex) q)
        have HK2 := hide (fun q => HKy.out (lab p - ex) q)
        rw [ha] at HK1 hfk lo1 at1
        rw [hb'] at HK2 hfk lo2 at2
        simp only [Int.toNat_natCast] at at1 at2
        have s1 : wr.cell? ⟨Sb, a, none⟩ = some (.int .i32 (st a)) := (hbr.cell (a := ⟨Sb, a, none⟩) (by show Sb ≠ Zb; exact hSZ)).trans (hs a (by omega))
        have s2 : wr.cell? ⟨Sb, b, none⟩ = some (.int .i32 (st b)) := (hbr.cell (a := ⟨Sb, b, none⟩) (by show Sb ≠ Zb; exact hSZ)).trans (hs b (by omega))
        have n1 := hst a (by omega)
        have n2 := hst b (by omega)
        have haK : (a : Int) < (K : Int) := by omega
        have hbK : (b : Int) < (K : Int) := by omega
        have hsz : Sb ≠ Zb := hSZ
        have hzs : Zb ≠ Sb := fun h => hSZ h.symm
        by_cases hab : a = b
        · subst hab
          have hv : decide (lab k - ex - st a = lab p - ex - st a + 1) = folB st K ex lab n k := by
            rw [hfk]
            have e1 : ((a : Int) == (a : Int)) = true := by simp
            rw [e1, Bool.and_true]
            congr 1
            exact propext ⟨fun h => by omega, fun h => by omega⟩
          have HV := hide hv
          have heq : (lab k - ex - st a == lab p - ex - st a + 1) = decide (lab k - ex - st a = lab p - ex - st a + 1) := rfl
          generalize hlk : lab k = l at c1 bl h1 HK1 at1 HV
          generalize hlp : lab p = lb at c2 bb h2 HK2 at2 HV
          generalize hsa : st a = sa at s1 s2 n1 n2 at1 at2 HV
          clear hQ hb hr hrr hbr hl hs hlab hst hfk HKy ha hb' ge1 ge2 hv heq hlk hlp hsa
          have w1' : IntKind.i32.wrap (l - ex) = l - ex := IntWalk.i32_in _ ⟨by omega, by omega⟩
          go_wp2
          go_quiet (fail)
          go_wp2_with fail
          refine (HK1.out _).mono ?_
          rintro e w2 ⟨rfl, rfl⟩
          go_wp2_with fail
          refine (HK2.out _).mono ?_
          rintro e w2 ⟨rfl, rfl⟩
          go_wp2
          go_roundw
          case rel => exact ⟨k + 1, by omega, by go_num, (HB.out.drewN _).setCell _ _, HR.out _ HV.out⟩
          case measure => simp [intOf]; omega
        · have hv : false = folB st K ex lab n k := by
            rw [hfk]
            have e1 : ((a : Int) == (b : Int)) = false := by simp; omega
            rw [e1, Bool.and_false]
          have HV := hide hv
          have hab' : ((a : Int) == (b : Int)) = false := by simp; omega
          generalize hlk : lab k = l at c1 bl h1 HK1 at1
          generalize hlp : lab p = lb at c2 bb h2 HK2 at2
          generalize hsa : st a = sa at s1 n1 at1
          generalize hsb : st b = sb at s2 n2 at2
          clear hQ hb hr hrr hbr hl hs hlab hst hfk HKy ha hb' ge1 ge2 hv hlk hlp hsa hsb
          go_wp2
          go_quiet (fail)
          go_wp2_with fail
          refine (HK1.out _).mono ?_
          rintro e w2 ⟨rfl, rfl⟩
          go_wp2_with fail
          refine (HK2.out _).mono ?_
          rintro e w2 ⟨rfl, rfl⟩
          go_wp2
          go_roundw
          case rel => exact ⟨k + 1, by omega, by go_num, (HB.out.drewN _).setCell _ _, HR.out _ HV.out⟩
          case measure => simp [intOf]; omega
      · have hv : folB st K ex lab n k = false := by
          rw [hfk]
          by_cases g : ex ≤ lab k
          · rw [decide_eq_false (fun h => h1 ⟨g, h⟩)]; simp
          · rw [decide_eq_false g]; simp
        have HV := hide (hrr.congr (g := fun i => Value.bool (if i < k + 1 then folB st K ex lab n i else false)) fun i _ => by
          by_cases g : i < k
          · rw [if_pos g, if_pos (by omega)]
          · rw [if_neg g]
            by_cases g2 : i = k
            · subst g2; rw [if_pos (by omega), hv]
            · rw [if_neg (by omega)])
        by_cases g : ex ≤ lab k
        · have g2 : ¬ ex ≤ lab p := fun h => h1 ⟨g, h⟩
          generalize lab k = l at c1 bl g
          generalize lab p = lb at c2 bb g2
          clear hQ hb hr hrr hbr hl hs hlab hst hfk hv h1 HR
          go_wp2
          go_quiet (fail)
          go_wp2
          go_roundw
          case rel => exact ⟨k + 1, by omega, by go_num, HB.out.drewN _, HV.out⟩
          case measure => simp [intOf]; omega
        · generalize lab k = l at c1 bl g
          generalize lab p = lb at c2 bb
          clear hQ hb hr hrr hbr hl hs hlab hst hfk hv h1 HR
          go_wp2
          go_quiet (fail)
          go_wp2
          go_roundw
          case rel => exact ⟨k + 1, by omega, by go_num, HB.out.drewN _, HV.out⟩
          case measure => simp [intOf]; omega
    · obtain rfl : k = n := by omega
      have hq := fun (u22 u23 u24 u25 u26 u27 u28 u124 u125 u126 u127 u128 u129 u130 u131 u132 u133 u134 u135 u136 u137 u138 u139 u140 u141 u142 u143 u144 u145 u146 u147 u148 u149 u150 u151 u152 u153 u154 u155 u156 u157 u158 u159 u160 u161 u162 u163 u164 u165 u166 u167 u168 u169 u170 u171 u172 u173 u174 u175 u176 u177 u178 u179 u180 u181 u182 u183 u184 u185 u186 u187 : Value) => hQ u22 u23 u24 u25 u26 u27 u28 u124 u125 u126 u127 u128 u129 u130 u131 u132 u133 u134 u135 u136 u137 u138 u139 u140 u141 u142 u143 u144 u145 u146 u147 u148 u149 u150 u151 u152 u153 u154 u155 u156 u157 u158 u159 u160 u161 u162 u163 u164 u165 u166 u167 u168 u169 u170 u171 u172 u173 u174 u175 u176 u177 u178 u179 u180 u181 u182 u183 u184 u185 u186 u187 wr hbr hrr
      clear hQ hb hr hrr hbr hl hs hlab hst
      go_wp2
      exact hq .. 

end Go.Proofs.Ybulkbfhw
