/- WRITTEN BY PROGRAM (gen17.py): the loop of LawS2817AModel that lays the model's runs. -/
import Derived.Test.YbulkbfhwFollows
import Derived.Test.YbulkbfhwOwn
namespace Go.Proofs.Ybulkbfhw
open Go.RowKit
attribute [local go_sem ↓] Go.wp_at_zero Go.wp_at_succ
set_option linter.unusedVariables false

set_option maxRecDepth 1000000 in
set_option maxHeartbeats 4000000 in
theorem model_loop {c0 c1 c2 c3 c4 c5 c6 c8 c9 c11 c12 c13 c14 c17 c18 c19 c20 c22 c23 c24 c25 c26 c27 c28 c32 c33 c34 c35 c36 c37 c38 c39 c40 c41 c42 c43 c44 c45 c46 c47 c48 c49 c50 c51 c52 c53 c54 c55 c56 c57 c58 c59 c60 c61 c62 c63 c64 c65 c66 c67 c68 c69 c70 c71 c72 c73 c74 c75 c76 c77 c78 c79 c80 c81 c82 c83 c84 c85 c86 c87 c88 c89 c90 c91 c92 c93 c94 c95 c96 c97 c98 c99 c100 c101 c102 c103 c104 c105 c106 c107 c108 c109 c110 c111 c112 c113 c114 c115 c116 c117 c118 c119 c120 c121 c122 c123 c124 c125 c126 c127 c128 c129 c130 c131 c132 c133 c134 c135 c136 c137 c138 c139 c140 c141 c142 c143 c144 c145 c146 c147 c148 c149 c150 c151 c152 c153 c154 c155 c156 c157 c158 c159 c160 c161 c162 c163 c164 c165 c166 c167 c168 c169 c170 c171 c172 c173 c174 c175 c176 c177 c178 c179 c180 c181 c182 c183 c184 c185 c186 c187 c188 c189 c190 c191 c192 c193 c194 c195 c196 c197 c198 c199 c200 c201 c202 c203 c204 c205 c206 c207 c208 c209 c210 c211 c212 c213 c214 c215 c216 c217 c218 c219 c220 c221 c222 c223 c224 c225 c226 c227 c228 c229 c230 c231 c232 c233 c234 c235 c236 c237 c238 c239 c240 c241 c242 c243 c244 c245 c246 c247 c248 c249 c250 c251 c252 c253 c254 c255 c256 c257 c258 c259 c260 c261 c262 c263 c264 c265 c266 c267 c268 c269 c270 c271 c272 c273 c274 c275 c276 c277 c278 c279 c280 c281 c282 c283 c284 c285 c286 c287 c288 c289 c290 c291 c292 c293 c294 c295 c296 c297 : Value} (B Sb Lb Zb K n s : Nat) (ex : Int) (st lab : Nat → Int) (w1 w : World) (Q : Exit → Act → World → Prop) (hS : Start st K ex lab n s) (hn : n ≤ 1024) (hK : K ≤ 1024) (hK0 : 0 < K) (hst0 : st 0 = 0) (hst : ∀ i, i < K → 0 ≤ st i) (hex : 0 ≤ ex ∧ ex ≤ 100) (hlab : ∀ i, i < n → 0 ≤ lab i ∧ lab i ≤ 100000) (hSB : Sb < B) (hLB : Lb < B) (hZB : Zb < B) (hB : B ≤ w1.heap.size) (hs : ∀ i, i < K → w1.cell? ⟨Sb, i, none⟩ = some (.int .i32 (st i))) (hl : ∀ i, i < n → w1.cell? ⟨Lb, i, none⟩ = some (.int .i32 (lab i))) (hz : ∀ i, i < n → w1.cell? ⟨Zb, i, none⟩ = some (.bool (folB st K ex lab n i))) (hb : Below B w1 w)
    (hQ : ∀ (u30 u31 u32 u33 u34 u199 u200 u201 u202 u203 u204 u205 u206 u207 u208 u209 u210 u211 u212 u213 u214 u215 u216 u217 u218 u219 u220 u221 u222 u223 u224 u225 u226 u227 u228 u229 u230 u231 u232 u233 u234 u235 u236 u237 u238 u239 u240 u241 u242 u243 u244 u245 u246 u247 u248 u249 u250 u251 u252 u253 u254 u255 u256 u257 u258 u259 u260 : Value) (w' : World), HasRuns w' B u30 (runsTo st K ex lab n s n) → Below B w1 w' → Q (.exit 8) ⟨#[c0, c1, c2, c3, c4, c5, c6, (.int .i32 ex), c8, c9, (.slice (some ⟨Sb, 0, none⟩) K K), c11, c12, c13, c14, (.int .i64 (n : Int)), (.slice (some ⟨Lb, 0, none⟩) n n), c17, c18, c19, c20, (.slice (some ⟨Zb, 0, none⟩) n n), c22, c23, c24, c25, c26, c27, c28, (.int .i64 (s : Int)), u30, u31, u32, u33, u34, c35, c36, c37, c38, c39, c40, c41, c42, c43, c44, c45, c46, c47, c48, c49, c50, c51, c52, c53, c54, c55, c56, c57, c58, c59, c60, c61, c62, c63, c64, c65, c66, c67, c68, c69, c70, c71, c72, c73, c74, c75, c76, c77, c78, c79, c80, c81, c82, c83, c84, c85, c86, c87, c88, c89, c90, c91, c92, c93, c94, c95, c96, c97, c98, c99, c100, c101, c102, c103, c104, c105, c106, c107, c108, c109, c110, c111, c112, c113, c114, c115, c116, c117, c118, c119, c120, c121, c122, c123, c124, c125, c126, c127, c128, c129, c130, c131, c132, c133, c134, c135, c136, c137, c138, c139, c140, c141, c142, c143, c144, c145, c146, c147, c148, c149, c150, c151, c152, c153, c154, c155, c156, c157, c158, c159, c160, c161, c162, c163, c164, c165, c166, c167, c168, c169, c170, c171, c172, c173, c174, c175, c176, c177, c178, c179, c180, c181, c182, c183, c184, c185, c186, c187, c188, c189, c190, c191, c192, c193, c194, c195, c196, c197, c198, u199, u200, u201, u202, u203, u204, u205, u206, u207, u208, u209, u210, u211, u212, u213, u214, u215, u216, u217, u218, u219, u220, u221, u222, u223, u224, u225, u226, u227, u228, u229, u230, u231, u232, u233, u234, u235, u236, u237, u238, u239, u240, u241, u242, u243, u244, u245, u246, u247, u248, u249, u250, u251, u252, u253, u254, u255, u256, u257, u258, u259, u260, c261, c262, c263, c264, c265, c266, c267, c268, c269, c270, c271, c272, c273, c274, c275, c276, c277, c278, c279, c280, c281, c282, c283, c284, c285, c286, c287, c288, c289, c290, c291, c292, c293, c294, c295, c296, c297], []⟩ w') :
    Code.wp Yba.prog ((Yba.f3.body.bind (findBlock 8)).getD .skip) Q ⟨#[c0, c1, c2, c3, c4, c5, c6, (.int .i32 ex), c8, c9, (.slice (some ⟨Sb, 0, none⟩) K K), c11, c12, c13, c14, (.int .i64 (n : Int)), (.slice (some ⟨Lb, 0, none⟩) n n), c17, c18, c19, c20, (.slice (some ⟨Zb, 0, none⟩) n n), c22, c23, c24, c25, c26, c27, c28, (.int .i64 (s : Int)), (.slice none 0 0), (.int .i64 0), c32, c33, c34, c35, c36, c37, c38, c39, c40, c41, c42, c43, c44, c45, c46, c47, c48, c49, c50, c51, c52, c53, c54, c55, c56, c57, c58, c59, c60, c61, c62, c63, c64, c65, c66, c67, c68, c69, c70, c71, c72, c73, c74, c75, c76, c77, c78, c79, c80, c81, c82, c83, c84, c85, c86, c87, c88, c89, c90, c91, c92, c93, c94, c95, c96, c97, c98, c99, c100, c101, c102, c103, c104, c105, c106, c107, c108, c109, c110, c111, c112, c113, c114, c115, c116, c117, c118, c119, c120, c121, c122, c123, c124, c125, c126, c127, c128, c129, c130, c131, c132, c133, c134, c135, c136, c137, c138, c139, c140, c141, c142, c143, c144, c145, c146, c147, c148, c149, c150, c151, c152, c153, c154, c155, c156, c157, c158, c159, c160, c161, c162, c163, c164, c165, c166, c167, c168, c169, c170, c171, c172, c173, c174, c175, c176, c177, c178, c179, c180, c181, c182, c183, c184, c185, c186, c187, c188, c189, c190, c191, c192, c193, c194, c195, c196, c197, c198, c199, c200, c201, c202, c203, c204, c205, c206, c207, c208, c209, c210, c211, c212, c213, c214, c215, c216, c217, c218, c219, c220, c221, c222, c223, c224, c225, c226, c227, c228, c229, c230, c231, c232, c233, c234, c235, c236, c237, c238, c239, c240, c241, c242, c243, c244, c245, c246, c247, c248, c249, c250, c251, c252, c253, c254, c255, c256, c257, c258, c259, c260, c261, c262, c263, c264, c265, c266, c267, c268, c269, c270, c271, c272, c273, c274, c275, c276, c277, c278, c279, c280, c281, c282, c283, c284, c285, c286, c287, c288, c289, c290, c291, c292, c293, c294, c295, c296, c297], []⟩ w := by
  refine outOf ?_
  conv => arg 2; whnf
  go_wp2
  go_loopw [30, 31] (fun v i wr => ∃ k : Nat, k ≤ n ∧ i = .int .i64 k ∧ HasRuns wr B v (runsTo st K ex lab n s k) ∧ Below B w1 wr) (fun _ i _ => n - (intOf i).toNat)
  case atStart => exact ⟨0, by omega, rfl, World.ownsRow_nil _ _ _ _, hb⟩
  case round =>
    obtain ⟨k, hk, rfl, hr, hbr⟩ := hrel
    have hBr : B ≤ wr.heap.size := Nat.le_trans hB hbr.size
    by_cases hlt : k < n
    · have hn0 : 0 < n := by omega
      have hi : (s + k) % n < n := Nat.mod_lt _ hn0
      have hii : ((s : Int) + (k : Int)) % (n : Int) = (((s + k) % n : Nat) : Int) := by rw [Int.natCast_emod, Int.natCast_add]
      have hsn := hS.lt st K ex lab n hn0
      have hstep : runsTo st K ex lab n s (k + 1) = stepR st K ex lab n (runsTo st K ex lab n s k) ((s + k) % n) := rfl
      have hne := runs_ne st K ex lab n hS hn0 k
      have hRl := runsTo_length st K ex lab n s k
      generalize (s + k) % n = i at hi hii hstep hne
      have c1 : wr.cell? ⟨Lb, i, none⟩ = some (.int .i32 (lab i)) := (hbr.cell (p := ⟨Lb, i, none⟩) hLB).trans (hl i hi)
      have c2 : wr.cell? ⟨Zb, i, none⟩ = some (.bool (folB st K ex lab n i)) := (hbr.cell (p := ⟨Zb, i, none⟩) hZB).trans (hz i hi)
      have bl := hlab i hi
      have hiN : (i : Int) < (n : Int) := by omega
      have hnz : ((n : Int) == 0) = false := by simp; omega
      have HKy := hide (zkey_any Sb K st (lab i - ex) wr (by omega) (fun i hi => (hbr.cell (p := ⟨Sb, i, none⟩) hSB).trans (hs i hi)))
      have HB := hide hbr
      have HR := hide hr
      unfold stepR at hstep
      by_cases hcut : lab i < ex
      · rw [if_pos hcut] at hstep
        have HT := hide hstep
        generalize lab i = l at c1 bl hcut HKy
        clear hbr hr hlab hQ hb HKy hstep hne hRl hS hl hz hs hst c2
        go_wp2
        go_roundw
        case rel => exact ⟨k + 1, by omega, by go_num, by rw [HT.out]; exact HR.out, HB.out⟩
        case measure => simp [intOf]; omega
      · rw [if_neg hcut] at hstep
        have hlo := lastLE_lo st (lab i - ex) K
        have hge := lastLE_nonneg st (lab i - ex) K hK0 (by have := hst0; omega)
        have hat := lastLE_at st (lab i - ex) K hge
        unfold keyR placeR at hstep
        obtain ⟨ky, hky⟩ : ∃ ky : Nat, lastLE st (lab i - ex) K = (ky : Int) := ⟨(lastLE st (lab i - ex) K).toNat, by omega⟩
        rw [hky] at HKy hstep hlo hat
        simp only [Int.toNat_natCast] at hstep hat
        have hkK : ky < K := by omega
        have c5 : wr.cell? ⟨Sb, ky, none⟩ = some (.int .i32 (st ky)) := (hbr.cell (p := ⟨Sb, ky, none⟩) hSB).trans (hs ky hkK)
        have hs0 := hst ky hkK
        have hkK2 : (ky : Int) < (K : Int) := by omega
        cases hf : folB st K ex lab n i with
        | true =>
          rw [hf] at c2 hstep
          rw [if_pos rfl] at hstep
          obtain ⟨R', ⟨kk, ff, ll⟩, hR⟩ : ∃ R' x, runsTo st K ex lab n s k = R' ++ [x] := by
            rcases List.eq_nil_or_concat (runsTo st K ex lab n s k) with e | ⟨L, b, e⟩
            · exact absurd e (hne hf)
            · exact ⟨L, b, by rw [e, List.concat_eq_append]⟩
          rw [hR] at HR hstep hRl
          rw [bump_concat] at hstep
          obtain ⟨g, cap, rfl, hgB, hgl, hgc, hgm, _⟩ := HR.out.form (by simp)
          have HT := hide hstep
          have hml : R'.length ≤ 1024 := by simp at hRl; omega
          simp only [List.length_append, List.length_cons, List.length_nil, Nat.zero_add] at HR hgc
          obtain ⟨x1, z1, hx⟩ := HR.out.bump
          have HX := hide hx
          have hgS : g ≠ Sb := by omega
          have hgL : g ≠ Lb := by omega
          have hgZ : g ≠ Zb := by omega
          generalize hm : R'.length = m at x1 z1 hml hgc ⊢
          generalize lab i = l at c1 bl hcut HKy hat
          generalize st ky = sk at c5 hs0 hat
          have hle : ex ≤ l := by omega
          have hmm : decide (0 < m + 1) = true := by simp
          have v1 : IntKind.i32.wrap (l - ex) = l - ex := IntWalk.i32_in _ ⟨by omega, by omega⟩
          have v2 : IntKind.i32.wrap (l - ex - sk) = l - ex - sk := IntWalk.i32_in _ ⟨by omega, by omega⟩
          clear hbr hr hlab hQ hb hstep hne hRl hS hl hz hs hst hR hf hx hky hge
          go_wp2_with fail
          refine HKy.out.mono ?_
          rintro e w2 ⟨rfl, rfl⟩
          go_wp2
          go_quiet (fail)
          go_wp2
          go_roundw
          case rel => exact ⟨k + 1, by omega, by go_num, by rw [HT.out, IntWalk.i32_left]; subst hm; exact (HX.out _).drewN _, (below_drewN HB.out _).setCell (by show B ≤ g; exact hgB) _⟩
          case measure => simp [intOf]; omega
        | false =>
          rw [hf] at c2 hstep
          rw [if_neg (by simp)] at hstep
          have HT := hide hstep
          obtain ⟨va, vcap, rfl⟩ := HR.out.len
          have HL := hide hRl
          generalize runsTo st K ex lab n s k = R at HR HT HL ⊢
          generalize lab i = l at c1 bl hcut HKy hat HT
          generalize st ky = sk at c5 hs0 hat HT
          have hle : ex ≤ l := by omega
          have v1 : IntKind.i32.wrap (l - ex) = l - ex := IntWalk.i32_in _ ⟨by omega, by omega⟩
          have v2 : IntKind.i32.wrap (l - ex - sk) = l - ex - sk := IntWalk.i32_in _ ⟨by omega, by omega⟩
          obtain ⟨i0, hi0, hz0, hz1, hz2⟩ := info_parts info49
          clear hbr hr hlab hQ hb hstep hne hRl hS hl hz hs hst hf hky hge
          go_wp2_with fail
          refine HKy.out.mono ?_
          rintro e w2 ⟨rfl, rfl⟩
          go_wp2
          go_quiet (fail)
          go_wp2_with (first
            | (at_builtin; refine wpList_append_own _ rfl _ _ 44 rfl B 49 i0 _ 3 16 Yba.underlying44 hi0 hz0 hz1 hz2 rfl (by decide) _ _ _ rfl ((HR.out.drewN nq).alloc _) ⟨wr.heap.size, 0, none⟩ 1 1 [.int .i64 (ky : Int), .int .i32 (l - ex - sk), .int .i32 (l - ex - sk + 1)] rfl rfl ?c1 ?c2 ?c3 ?c4 ?c5 ?_))
          case c1 =>
            intro j u hj
            match j, hj with
            | 0, hj => simp at hj; subst hj; rw [addr_add]; exact (World.cell?_alloc_at _ _ _ _ rfl).trans rfl
            | 1, hj => simp at hj; subst hj; rw [addr_add]; exact (World.cell?_alloc_at _ _ _ _ rfl).trans rfl
            | 2, hj => simp at hj; subst hj; rw [addr_add]; exact (World.cell?_alloc_at _ _ _ _ rfl).trans rfl
          case c2 => intro u hu; simp at hu; rcases hu with rfl | rfl | rfl <;> rfl
          case c3 => have := HL.out; unfold maxLen; omega
          case c4 => have := HL.out; omega
          case c5 => simp; omega
          intro v' w4 hown hgrow _
          have HG : Hid (Below B w1 w4) := ((below_drewN HB.out nq).alloc (by simp; omega) _).grown hgrow (by simp; omega) (fun kk hkk => (HR.out.lt kk hkk).1)
          have HO := hide (HasRuns.snoc (w := w4) hown)
          clear hown hgrow
          go_wp2
          go_roundw
          case rel => exact ⟨k + 1, by omega, by go_num, by rw [HT.out]; exact HO.out, HG.out⟩
          case measure => simp [intOf]; omega
    · obtain rfl : k = n := by omega
      have hq := fun (u31 u32 u33 u34 u199 u200 u201 u202 u203 u204 u205 u206 u207 u208 u209 u210 u211 u212 u213 u214 u215 u216 u217 u218 u219 u220 u221 u222 u223 u224 u225 u226 u227 u228 u229 u230 u231 u232 u233 u234 u235 u236 u237 u238 u239 u240 u241 u242 u243 u244 u245 u246 u247 u248 u249 u250 u251 u252 u253 u254 u255 u256 u257 u258 u259 u260 : Value) => fun v (h : HasRuns wr B v (runsTo st K ex lab k s k)) => hQ v u31 u32 u33 u34 u199 u200 u201 u202 u203 u204 u205 u206 u207 u208 u209 u210 u211 u212 u213 u214 u215 u216 u217 u218 u219 u220 u221 u222 u223 u224 u225 u226 u227 u228 u229 u230 u231 u232 u233 u234 u235 u236 u237 u238 u239 u240 u241 u242 u243 u244 u245 u246 u247 u248 u249 u250 u251 u252 u253 u254 u255 u256 u257 u258 u259 u260 wr h hbr
      have HR := hide hr
      clear hbr hlab hQ hb hr hS hl hz hs hst
      go_wp2
      exact hq _ _ _ _ _ _ _ _ _ _ _ _ _ _ _ _ _ _ _ _ _ _ _ _ _ _ _ _ _ _ _ _ _ _ _ _ _ _ _ _ _ _ _ _ _ _ _ _ _ _ _ _ _ _ _ _ _ _ _ _ _ _ _ _ _ _ _ HR.out 

end Go.Proofs.Ybulkbfhw
