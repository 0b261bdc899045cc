/- WRITTEN BY PROGRAM (gen.py): the loops of LawS2811CBoxCorner at dimension 4. -/
import Derived.Test.YbulkbfeqSmall
import Derived.Test.YbulkbfeqKept
import Derived.WalkKit
import Derived.WalkSpells
import Derived.WalkLawsBesides
import Derived.Deep.OwnRows
import Derived.Deep.QuietTactic
import Derived.BigQuiet
import Derived.BigRegion
import Derived.Deep.RegionHeld3
import Derived.Deep.RegionWith
import Derived.Deep.DrawnRows
import Derived.Deep.DeepMust
import Derived.Test.YbulkbfeqPick
namespace Go.Proofs.Ybulkbfeq.B4
open Go.RowKit
attribute [local go_sem] run_store_float
attribute [local go_sem ↓] Go.wp_at_zero Go.wp_at_succ
set_option linter.unusedVariables false
set_option maxRecDepth 1000000 in
set_option maxHeartbeats 4000000 in
theorem pick_loop {c0 c1 c2 c6 c7 c8 c9 c10 c11 c12 c14 c15 c16 c17 c18 c19 c20 c25 c26 c27 c28 c29 c30 c31 c32 c33 c34 c35 c36 c37 c38 c39 c40 c41 c42 c43 c44 c45 c46 c47 c48 c49 c50 c51 c52 c53 c54 c55 c56 c57 c58 c59 c60 c61 c62 c63 c64 c65 c66 c67 c68 c69 c70 c71 c72 c73 c74 c75 c76 c77 c78 c79 c80 c81 c82 c83 c84 c85 c86 c87 c88 c89 c90 c91 c92 c93 c94 c95 c96 c97 c98 c99 c100 c101 c102 c103 c104 c105 c106 c107 c108 c109 c110 c111 c112 c113 c114 c115 c116 c117 c118 c119 c120 c121 c122 c123 c124 c125 c126 c127 c128 c129 c130 c131 c132 c133 c134 c135 c136 c137 c138 c139 c140 c141 c142 c143 c144 c145 c146 c147 c148 c149 c150 c151 c152 c153 c154 c155 c156 c157 c158 c159 c160 c161 c162 c163 c164 c165 c166 c167 c168 c169 c170 c171 c172 c173 c174 c175 c176 c177 c178 c179 c180 c181 c182 c183 c184 c185 c186 c187 c188 c189 c190 c191 c192 c193 c194 c195 c196 c197 c198 c199 c200 c201 c202 c203 c204 c205 c206 c207 c208 c209 c210 c211 c212 c213 c214 c215 c216 c217 c218 c219 c220 c221 c222 c223 c224 c225 c226 c227 c228 c229 c230 c231 c232 c233 c234 c235 c236 c237 c238 c239 c240 c241 c242 c243 c244 c245 c246 c247 c248 c249 c250 c251 c252 c253 c254 c255 c256 : Value} (G B ll lc hl hc wl wc : Nat) (la ha wa : Option Addr) (Lo Hi Wf : Nat → Nat) (w0 : World) (w1 w : World) (Q : Exit → Act → World → Prop) (hBG : B ≤ G) (hw0 : Below B w0 w1) (pl : PickOk w0 B 4 la ll Lo) (ph : PickOk w0 B 4 ha hl Hi) (pw : PickOk w0 B 4 wa wl Wf) (hb : Below G w1 w) (h1 : w.rowIs G 26 4 fun _ => FV 0) (h2 : w.rowIs (G + 1) 26 4 fun _ => FV 0) (h3 : w.rowIs (G + 1 + 1) 26 4 fun _ => FV 0)
    (hQ : ∀ (u24 u101 u102 u103 u104 u105 u106 u107 u108 u109 u110 u111 u112 u113 u114 u115 u116 u117 u118 u119 u120 u121 u122 u123 : Value) (w' : World), Below G w1 w' → (w'.rowIs G 26 4 fun i => FV (if i < 4 then Lo i else 0)) → (w'.rowIs (G + 1) 26 4 fun i => FV (if i < 4 then Hi i else 0)) → (w'.rowIs (G + 1 + 1) 26 4 fun i => FV (if i < 4 then Wf i else 0)) → Q (.exit 2) ⟨#[c0, c1, c2, (.slice la ll lc), (.slice ha hl hc), (.slice wa wl wc), c6, c7, c8, c9, c10, c11, c12, (.int .i64 4), c14, c15, c16, c17, c18, c19, c20, (.slice (some ⟨G, 0, none⟩) 4 4), (.slice (some ⟨G + 1, 0, none⟩) 4 4), (.slice (some ⟨G + 1 + 1, 0, none⟩) 4 4), u24, c25, c26, c27, c28, c29, c30, c31, c32, c33, c34, c35, c36, c37, c38, c39, c40, c41, c42, c43, c44, c45, c46, c47, c48, c49, c50, c51, c52, c53, c54, c55, c56, c57, c58, c59, c60, c61, c62, c63, c64, c65, c66, c67, c68, c69, c70, c71, c72, c73, c74, c75, c76, c77, c78, c79, c80, c81, c82, c83, c84, c85, c86, c87, c88, c89, c90, c91, c92, c93, c94, c95, c96, c97, c98, c99, c100, u101, u102, u103, u104, u105, u106, u107, u108, u109, u110, u111, u112, u113, u114, u115, u116, u117, u118, u119, u120, u121, u122, u123, c124, c125, c126, c127, c128, c129, c130, c131, c132, c133, c134, c135, c136, c137, c138, c139, c140, c141, c142, c143, c144, c145, c146, c147, c148, c149, c150, c151, c152, c153, c154, c155, c156, c157, c158, c159, c160, c161, c162, c163, c164, c165, c166, c167, c168, c169, c170, c171, c172, c173, c174, c175, c176, c177, c178, c179, c180, c181, c182, c183, c184, c185, c186, c187, c188, c189, c190, c191, c192, c193, c194, c195, c196, c197, c198, c199, c200, c201, c202, c203, c204, c205, c206, c207, c208, c209, c210, c211, c212, c213, c214, c215, c216, c217, c218, c219, c220, c221, c222, c223, c224, c225, c226, c227, c228, c229, c230, c231, c232, c233, c234, c235, c236, c237, c238, c239, c240, c241, c242, c243, c244, c245, c246, c247, c248, c249, c250, c251, c252, c253, c254, c255, c256], []⟩ w') :
    Code.wp Yba.prog ((Yba.f3.body.bind (findBlock 2)).getD .skip) Q ⟨#[c0, c1, c2, (.slice la ll lc), (.slice ha hl hc), (.slice wa wl wc), c6, c7, c8, c9, c10, c11, c12, (.int .i64 4), c14, c15, c16, c17, c18, c19, c20, (.slice (some ⟨G, 0, none⟩) 4 4), (.slice (some ⟨G + 1, 0, none⟩) 4 4), (.slice (some ⟨G + 1 + 1, 0, none⟩) 4 4), (.int .i64 0), c25, c26, c27, c28, c29, c30, c31, c32, c33, c34, c35, c36, c37, c38, c39, c40, c41, c42, c43, c44, c45, c46, c47, c48, c49, c50, c51, c52, c53, c54, c55, c56, c57, c58, c59, c60, c61, c62, c63, c64, c65, c66, c67, c68, c69, c70, c71, c72, c73, c74, c75, c76, c77, c78, c79, c80, c81, c82, c83, c84, c85, c86, c87, c88, c89, c90, c91, c92, c93, c94, c95, c96, c97, c98, c99, c100, c101, c102, c103, c104, c105, c106, c107, c108, c109, c110, c111, c112, c113, c114, c115, c116, c117, c118, c119, c120, c121, c122, c123, c124, c125, c126, c127, c128, c129, c130, c131, c132, c133, c134, c135, c136, c137, c138, c139, c140, c141, c142, c143, c144, c145, c146, c147, c148, c149, c150, c151, c152, c153, c154, c155, c156, c157, c158, c159, c160, c161, c162, c163, c164, c165, c166, c167, c168, c169, c170, c171, c172, c173, c174, c175, c176, c177, c178, c179, c180, c181, c182, c183, c184, c185, c186, c187, c188, c189, c190, c191, c192, c193, c194, c195, c196, c197, c198, c199, c200, c201, c202, c203, c204, c205, c206, c207, c208, c209, c210, c211, c212, c213, c214, c215, c216, c217, c218, c219, c220, c221, c222, c223, c224, c225, c226, c227, c228, c229, c230, c231, c232, c233, c234, c235, c236, c237, c238, c239, c240, c241, c242, c243, c244, c245, c246, c247, c248, c249, c250, c251, c252, c253, c254, c255, c256], []⟩ w := by
  refine outOf ?_
  conv => arg 2; whnf
  go_wp2
  go_loopw [24] (fun i wr => ∃ k : Nat, k ≤ 4 ∧ i = .int .i64 k ∧ Below G w1 wr ∧ (wr.rowIs G 26 4 fun i => FV (if i < k then Lo i else 0)) ∧ (wr.rowIs (G + 1) 26 4 fun i => FV (if i < k then Hi i else 0)) ∧ (wr.rowIs (G + 1 + 1) 26 4 fun i => FV (if i < k then Wf i else 0))) (fun i _ => 4 - (intOf i).toNat)
  case atStart => exact ⟨0, by omega, rfl, hb, h1.congr (fun i _ => by simp), h2.congr (fun i _ => by simp), h3.congr (fun i _ => by simp)⟩
  case round =>
    obtain ⟨k, hk, rfl, hbr, r1, r2, r3⟩ := hrel
    by_cases hlt : k < 4
    · have hbb : Below B w0 wr := hw0.trans (hbr.mono hBG)
      obtain ⟨v1, x1⟩ : ∃ v, wr.cell? ⟨G, k, none⟩ = some v := ⟨_, r1.cell hlt⟩
      have z1 := r1.frozen k
      obtain ⟨v2, x2⟩ : ∃ v, wr.cell? ⟨G + 1, k, none⟩ = some v := ⟨_, r2.cell hlt⟩
      have z2 := r2.frozen k
      obtain ⟨v3, x3⟩ : ∃ v, wr.cell? ⟨G + 1 + 1, k, none⟩ = some v := ⟨_, r3.cell hlt⟩
      have z3 := r3.frozen k
      have c1 := fun (w2 : World) (h : Below B w0 w2) => pick_any (cap := lc) pl h k hlt (by omega)
      have c2 := fun (w2 : World) (h : Below B w0 w2) => pick_any (cap := hc) ph h k hlt (by omega)
      have c3 := fun (w2 : World) (h : Below B w0 w2) => pick_any (cap := wc) pw h k hlt (by omega)
      have P1 := hide c1
      have P2 := hide c2
      have P3 := hide c3
      have R := hide (show Below G w1 (((wr.setCell ⟨G, k, none⟩ (FV (Lo k))).setCell ⟨G + 1, k, none⟩ (FV (Hi k))).setCell ⟨G + 1 + 1, k, none⟩ (FV (Wf k))) ∧
          ((((wr.setCell ⟨G, k, none⟩ (FV (Lo k))).setCell ⟨G + 1, k, none⟩ (FV (Hi k))).setCell ⟨G + 1 + 1, k, none⟩ (FV (Wf k))).rowIs G 26 4 fun i => FV (if i < k + 1 then Lo i else 0)) ∧
          ((((wr.setCell ⟨G, k, none⟩ (FV (Lo k))).setCell ⟨G + 1, k, none⟩ (FV (Hi k))).setCell ⟨G + 1 + 1, k, none⟩ (FV (Wf k))).rowIs (G + 1) 26 4 fun i => FV (if i < k + 1 then Hi i else 0)) ∧
          ((((wr.setCell ⟨G, k, none⟩ (FV (Lo k))).setCell ⟨G + 1, k, none⟩ (FV (Hi k))).setCell ⟨G + 1 + 1, k, none⟩ (FV (Wf k))).rowIs (G + 1 + 1) 26 4 fun i => FV (if i < k + 1 then Wf i else 0)) from
        ⟨((hbr.setCell (by show G ≤ G; omega) _).setCell (by show G ≤ G + 1; omega) _).setCell (by show G ≤ G + 1 + 1; omega) _,
         (((r1.set k _).setOther (by show G ≠ G + 1; omega) _).setOther (by show G ≠ G + 1 + 1; omega) _).congr fun i _ => set_upto FV k i (Lo k) Lo (fun _ => 0) rfl,
         (((r2.setOther (by show G + 1 ≠ G; omega) _).set k _).setOther (by show G + 1 ≠ G + 1 + 1; omega) _).congr fun i _ => set_upto FV k i (Hi k) Hi (fun _ => 0) rfl,
         (((r3.setOther (by show G + 1 + 1 ≠ G; omega) _).setOther (by show G + 1 + 1 ≠ G + 1; omega) _).set k _).congr fun i _ => set_upto FV k i (Wf k) Wf (fun _ => 0) rfl⟩)
      generalize Lo k = xl at P1 R
      generalize Hi k = xh at P2 R
      generalize Wf k = xw at P3 R
      have HB := hide hbb
      clear c1 c2 c3 r1 r2 r3 hQ hb h1 h2 h3 pl ph pw hbb hw0 hbr
      go_wp2_with fail
      refine (P1.out wr HB.out).mono ?_
      rintro e w2 ⟨rfl, rfl⟩
      go_wp2_with fail
      refine (P2.out _ (HB.out.setCell (by show B ≤ G; omega) _)).mono ?_
      rintro e w2 ⟨rfl, rfl⟩
      go_wp2_with fail
      refine (P3.out _ ((HB.out.setCell (by show B ≤ G; omega) _).setCell (by show B ≤ G + 1; omega) _)).mono ?_
      rintro e w2 ⟨rfl, rfl⟩
      go_wp2
      go_roundw
      case rel => exact ⟨k + 1, by omega, by go_num, R.out⟩
      case measure => simp [intOf]; omega
    · obtain rfl : k = 4 := by omega
      have hq := fun (u24 u101 u102 u103 u104 u105 u106 u107 u108 u109 u110 u111 u112 u113 u114 u115 u116 u117 u118 u119 u120 u121 u122 u123 : Value) => hQ u24 u101 u102 u103 u104 u105 u106 u107 u108 u109 u110 u111 u112 u113 u114 u115 u116 u117 u118 u119 u120 u121 u122 u123 wr hbr r1 r2 r3
      clear hQ hb h1 h2 h3 r1 r2 r3 pl ph pw hw0
      go_wp2
      exact hq .. 

end Go.Proofs.Ybulkbfeq.B4
