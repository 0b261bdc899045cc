/- WRITTEN BY PROGRAM (gen.py): the loops of LawS2811CBoxCorner at dimension 4. -/
import Derived.Test.YbulkbfeqSmall
import Derived.Test.YbulkbfeqKept
import Derived.WalkKit
import Derived.WalkSpells
import Derived.WalkLawsBesides
import Derived.Deep.OwnRows
import Derived.Deep.QuietTactic
import Derived.BigQuiet
import Derived.BigRegion
import Derived.Deep.RegionHeld3
import Derived.Deep.RegionWith
import Derived.Deep.DrawnRows
import Derived.Deep.DeepMust
import Derived.Test.YbulkbfeqPick
namespace Go.Proofs.Ybulkbfeq.B4
open Go.RowKit
attribute [local go_sem] run_store_float
attribute [local go_sem ↓] Go.wp_at_zero Go.wp_at_succ
set_option linter.unusedVariables false
set_option maxRecDepth 1000000 in
set_option maxHeartbeats 4000000 in
theorem sel_loop {c0 c1 c3 c4 c5 c6 c7 c8 c9 c10 c11 c12 c15 c20 c21 c22 c23 c24 c25 c26 c27 c28 c29 c30 c31 c32 c33 c34 c35 c36 c37 c38 c39 c40 c41 c42 c43 c44 c45 c46 c47 c48 c49 c50 c51 c52 c53 c54 c55 c56 c57 c58 c59 c60 c61 c62 c63 c64 c65 c66 c67 c68 c69 c70 c71 c72 c73 c74 c75 c76 c77 c78 c79 c80 c81 c82 c83 c84 c85 c86 c87 c88 c89 c90 c91 c92 c93 c94 c95 c96 c97 c98 c99 c100 c101 c102 c103 c104 c105 c106 c107 c108 c109 c110 c111 c112 c113 c114 c115 c116 c117 c118 c119 c120 c121 c122 c123 c124 c125 c126 c127 c128 c129 c130 c131 c132 c133 c134 c135 c136 c137 c138 c139 c140 c141 c142 c143 c144 c145 c146 c147 c148 c149 c150 c151 c152 c153 c154 c155 c156 c157 c158 c159 c160 c161 c162 c163 c164 c165 c166 c167 c168 c169 c170 c171 c172 c173 c174 c175 c176 c177 c178 c179 c180 c181 c182 c183 c184 c185 c186 c187 c188 c189 c190 c191 c192 c193 c194 c195 c196 c197 c198 c199 c200 c201 c202 c203 c204 c205 c206 c207 c208 c209 c210 c211 c212 c213 c214 c215 c216 c217 c218 c219 c220 c221 c222 c223 c224 c225 c226 c227 c228 c229 c230 c231 c232 c233 c234 c235 c236 c237 c238 c239 c240 c241 c242 c243 c244 c245 c246 c247 c248 c249 c250 c251 c252 c253 c254 c255 c256 : Value} (H m len cap : Nat) (sa : Option Addr) (C : Nat → Nat) (w1 w : World) (Q : Exit → Act → World → Prop) (hm : m ≤ 1000) (hsel : SelOk w1 (H + 1) 4 sa len C) (hb : Below (H + 1) w1 w) (h1 : w.rowIs (H + 1) 3 4 fun _ => .int .i64 0) (h2 : w.rowIs (H + 1 + 1) 3 4 fun _ => .int .i64 0) (h3 : w.rowIs (H + 1 + 1 + 1) 26 4 fun _ => FV 0)
    (hQ : ∀ (u19 u20 u55 u56 u57 u58 u59 u60 u61 u62 u63 u64 u65 u66 u67 u68 u69 u70 u71 u72 u73 u74 u75 u76 u77 u78 u79 u80 u81 u82 u83 u84 u85 u86 u87 u88 u89 u90 u91 u92 u93 u94 : Value) (w' : World), Below (H + 1) w1 w' → (w'.rowIs (H + 1) 3 4 fun i => .int .i64 (if i < 4 then ((m + C i : Nat) : Int) else 0)) → (w'.rowIs (H + 1 + 1) 3 4 fun i => .int .i64 (if i < 4 then ((C i / 2 : Nat) : Int) else 0)) → (w'.rowIs (H + 1 + 1 + 1) 26 4 fun i => FV (if i < 4 then sg C i else 0)) → Q (.exit 0) ⟨#[c0, c1, (.slice sa len cap), c3, c4, c5, c6, c7, c8, c9, c10, c11, c12, (.int .i64 4), (.int .i64 (m : Int)), c15, (.slice (some ⟨H + 1, 0, none⟩) 4 4), (.slice (some ⟨H + 1 + 1, 0, none⟩) 4 4), (.slice (some ⟨H + 1 + 1 + 1, 0, none⟩) 4 4), u19, u20, c21, c22, c23, c24, c25, c26, c27, c28, c29, c30, c31, c32, c33, c34, c35, c36, c37, c38, c39, c40, c41, c42, c43, c44, c45, c46, c47, c48, c49, c50, c51, c52, c53, c54, u55, u56, u57, u58, u59, u60, u61, u62, u63, u64, u65, u66, u67, u68, u69, u70, u71, u72, u73, u74, u75, u76, u77, u78, u79, u80, u81, u82, u83, u84, u85, u86, u87, u88, u89, u90, u91, u92, u93, u94, c95, c96, c97, c98, c99, c100, c101, c102, c103, c104, c105, c106, c107, c108, c109, c110, c111, c112, c113, c114, c115, c116, c117, c118, c119, c120, c121, c122, c123, c124, c125, c126, c127, c128, c129, c130, c131, c132, c133, c134, c135, c136, c137, c138, c139, c140, c141, c142, c143, c144, c145, c146, c147, c148, c149, c150, c151, c152, c153, c154, c155, c156, c157, c158, c159, c160, c161, c162, c163, c164, c165, c166, c167, c168, c169, c170, c171, c172, c173, c174, c175, c176, c177, c178, c179, c180, c181, c182, c183, c184, c185, c186, c187, c188, c189, c190, c191, c192, c193, c194, c195, c196, c197, c198, c199, c200, c201, c202, c203, c204, c205, c206, c207, c208, c209, c210, c211, c212, c213, c214, c215, c216, c217, c218, c219, c220, c221, c222, c223, c224, c225, c226, c227, c228, c229, c230, c231, c232, c233, c234, c235, c236, c237, c238, c239, c240, c241, c242, c243, c244, c245, c246, c247, c248, c249, c250, c251, c252, c253, c254, c255, c256], []⟩ w') :
    Code.wp Yba.prog ((Yba.f3.body.bind (findBlock 0)).getD .skip) Q ⟨#[c0, c1, (.slice sa len cap), c3, c4, c5, c6, c7, c8, c9, c10, c11, c12, (.int .i64 4), (.int .i64 (m : Int)), c15, (.slice (some ⟨H + 1, 0, none⟩) 4 4), (.slice (some ⟨H + 1 + 1, 0, none⟩) 4 4), (.slice (some ⟨H + 1 + 1 + 1, 0, none⟩) 4 4), (.int .i64 0), c20, c21, c22, c23, c24, c25, c26, c27, c28, c29, c30, c31, c32, c33, c34, c35, c36, c37, c38, c39, c40, c41, c42, c43, c44, c45, c46, c47, c48, c49, c50, c51, c52, c53, c54, c55, c56, c57, c58, c59, c60, c61, c62, c63, c64, c65, c66, c67, c68, c69, c70, c71, c72, c73, c74, c75, c76, c77, c78, c79, c80, c81, c82, c83, c84, c85, c86, c87, c88, c89, c90, c91, c92, c93, c94, c95, c96, c97, c98, c99, c100, c101, c102, c103, c104, c105, c106, c107, c108, c109, c110, c111, c112, c113, c114, c115, c116, c117, c118, c119, c120, c121, c122, c123, c124, c125, c126, c127, c128, c129, c130, c131, c132, c133, c134, c135, c136, c137, c138, c139, c140, c141, c142, c143, c144, c145, c146, c147, c148, c149, c150, c151, c152, c153, c154, c155, c156, c157, c158, c159, c160, c161, c162, c163, c164, c165, c166, c167, c168, c169, c170, c171, c172, c173, c174, c175, c176, c177, c178, c179, c180, c181, c182, c183, c184, c185, c186, c187, c188, c189, c190, c191, c192, c193, c194, c195, c196, c197, c198, c199, c200, c201, c202, c203, c204, c205, c206, c207, c208, c209, c210, c211, c212, c213, c214, c215, c216, c217, c218, c219, c220, c221, c222, c223, c224, c225, c226, c227, c228, c229, c230, c231, c232, c233, c234, c235, c236, c237, c238, c239, c240, c241, c242, c243, c244, c245, c246, c247, c248, c249, c250, c251, c252, c253, c254, c255, c256], []⟩ w := by
  refine outOf ?_
  conv => arg 2; whnf
  go_wp2
  go_loopw [19] (fun i wr => ∃ k : Nat, k ≤ 4 ∧ i = .int .i64 k ∧ Below (H + 1) w1 wr ∧ (wr.rowIs (H + 1) 3 4 fun i => .int .i64 (if i < k then ((m + C i : Nat) : Int) else 0)) ∧ (wr.rowIs (H + 1 + 1) 3 4 fun i => .int .i64 (if i < k then ((C i / 2 : Nat) : Int) else 0)) ∧ (wr.rowIs (H + 1 + 1 + 1) 26 4 fun i => FV (if i < k then sg C i else 0))) (fun i _ => 4 - (intOf i).toNat)
  case atStart => exact ⟨0, by omega, rfl, hb, h1.congr (fun i _ => by simp), h2.congr (fun i _ => by simp), h3.congr (fun i _ => by simp)⟩
  case round =>
    obtain ⟨k, hk, rfl, hbr, r1, r2, r3⟩ := hrel
    by_cases hlt : k < 4
    · have hCk := hsel.lt k hlt
      have J := hide (And.intro hbr (And.intro r1 (And.intro r2 r3)))
      obtain ⟨v1, x1⟩ : ∃ v, wr.cell? ⟨H + 1, k, none⟩ = some v := ⟨_, r1.cell hlt⟩
      have z1 := r1.frozen k
      obtain ⟨v2, x2⟩ : ∃ v, wr.cell? ⟨H + 1 + 1, k, none⟩ = some v := ⟨_, r2.cell hlt⟩
      have z2 := r2.frozen k
      obtain ⟨v3, x3⟩ : ∃ v, wr.cell? ⟨H + 1 + 1 + 1, k, none⟩ = some v := ⟨_, r3.cell hlt⟩
      have z3 := r3.frozen k
      have fin : ∀ (wn : World) (c : Nat), C k = c → wn = ((wr.setCell ⟨H + 1, k, none⟩ (.int .i64 ((m : Int) + (c : Int)))).setCell ⟨H + 1 + 1, k, none⟩ (.int .i64 ((c : Int) / 2))).setCell ⟨H + 1 + 1 + 1, k, none⟩ (FV (if c % 2 = 0 then W1 else M1)) →
          Below (H + 1) w1 wn ∧ (wn.rowIs (H + 1) 3 4 fun i => .int .i64 (if i < k + 1 then ((m + C i : Nat) : Int) else 0)) ∧ (wn.rowIs (H + 1 + 1) 3 4 fun i => .int .i64 (if i < k + 1 then ((C i / 2 : Nat) : Int) else 0)) ∧ (wn.rowIs (H + 1 + 1 + 1) 26 4 fun i => FV (if i < k + 1 then sg C i else 0)) := by
        intro wn c hc hw
        rw [hw]
        refine ⟨((hbr.setCell (by show H + 1 ≤ H + 1; omega) _).setCell (by show H + 1 ≤ H + 1 + 1; omega) _).setCell (by show H + 1 ≤ H + 1 + 1 + 1; omega) _, ?_, ?_, ?_⟩
        · refine (((r1.set k _).setOther (by show H + 1 ≠ H + 1 + 1; omega) _).setOther (by show H + 1 ≠ H + 1 + 1 + 1; omega) _).congr fun i _ => ?_
          exact set_upto (Value.int .i64) k i ((m : Int) + (c : Int)) (fun i => ((m + C i : Nat) : Int)) (fun _ => 0) (by simp only [hc]; omega)
        · refine (((r2.setOther (by show H + 1 + 1 ≠ H + 1; omega) _).set k _).setOther (by show H + 1 + 1 ≠ H + 1 + 1 + 1; omega) _).congr fun i _ => ?_
          exact set_upto (Value.int .i64) k i ((c : Int) / 2) (fun i => ((C i / 2 : Nat) : Int)) (fun _ => 0) (by simp only [hc]; omega)
        · refine (((r3.setOther (by show H + 1 + 1 + 1 ≠ H + 1; omega) _).setOther (by show H + 1 + 1 + 1 ≠ H + 1 + 1; omega) _).set k _).congr fun i _ => ?_
          exact set_upto FV k i (if c % 2 = 0 then W1 else M1) (fun i => sg C i) (fun _ => 0) (by simp only [sg, hc])
      have HF := hide fin
      clear fin r1 r2 r3 hQ hb h1 h2 h3
      rcases hsel with ⟨rfl, hs⟩ | ⟨hl, hml, b, off, rfl, hbb, hs⟩
      · have hCC := hs k hlt
        have HC := hide hCC
        rw [hCC] at hCk
        clear hs hCC
        by_cases hpar : k % 2 = 0
        · have hp2 : ((k : Int) % 2 == 0) = true := by simp; omega
          go_wp2
          go_roundw
          case rel => exact ⟨k + 1, by omega, by go_num, HF.out _ k HC.out (by rw [if_pos hpar])⟩
          case measure => simp [intOf]; omega
        · have hp2 : ((k : Int) % 2 == 0) = false := by simp; omega
          go_wp2
          go_roundw
          case rel => exact ⟨k + 1, by omega, by go_num, HF.out _ k HC.out (by rw [if_neg hpar])⟩
          case measure => simp [intOf]; omega
      · obtain ⟨z, hz1, hz2, hz3⟩ := hs k hlt
        unfold maxLen at hml
        have hcell : wr.cell? ⟨b, off + k % len, none⟩ = some (.int .u8 (z : Int)) := (hbr.cell (p := ⟨b, off + k % len, none⟩) hbb).trans hz1
        have h0 : ((len : Int) == 0) = false := by simp; omega
        have q1 : (k : Int) % (len : Int) < (len : Int) := Int.emod_lt_of_pos _ (by omega)
        have q2 : (0 : Int) ≤ (k : Int) % (len : Int) := Int.emod_nonneg _ (by omega)
        have hlp : (0 : Int) < (len : Int) := by omega
        obtain ⟨c, hc⟩ : ∃ c, c = z % 8 := ⟨_, rfl⟩
        have hzc : (z : Int) % 8 = (c : Int) := by omega
        have HC : Hid (C k = c) := hz3.trans hc.symm
        have hc2 : c < 8 := by omega
        clear hs hz1 hz3 hc
        by_cases hpar : c % 2 = 0
        · have hp2 : ((c : Int) % 2 == 0) = true := by simp; omega
          go_wp2
          go_roundw
          case rel => exact ⟨k + 1, by omega, by go_num, HF.out _ c HC.out (by rw [if_pos hpar])⟩
          case measure => simp [intOf]; omega
        · have hp2 : ((c : Int) % 2 == 0) = false := by simp; omega
          go_wp2
          go_roundw
          case rel => exact ⟨k + 1, by omega, by go_num, HF.out _ c HC.out (by rw [if_neg hpar])⟩
          case measure => simp [intOf]; omega
    · obtain rfl : k = 4 := by omega
      have hq := fun (u19 u20 u55 u56 u57 u58 u59 u60 u61 u62 u63 u64 u65 u66 u67 u68 u69 u70 u71 u72 u73 u74 u75 u76 u77 u78 u79 u80 u81 u82 u83 u84 u85 u86 u87 u88 u89 u90 u91 u92 u93 u94 : Value) => hQ u19 u20 u55 u56 u57 u58 u59 u60 u61 u62 u63 u64 u65 u66 u67 u68 u69 u70 u71 u72 u73 u74 u75 u76 u77 u78 u79 u80 u81 u82 u83 u84 u85 u86 u87 u88 u89 u90 u91 u92 u93 u94 wr hbr r1 r2 r3
      clear hQ hb h1 h2 h3 r1 r2 r3 hsel
      go_wp2
      exact hq .. 

end Go.Proofs.Ybulkbfeq.B4
