/- WRITTEN BY PROGRAM (gen.py): the loops of LawS2811CTwoRows. -/
import Derived.Test.YbulkbfeqSmall
import Derived.Test.YbulkbfeqKept
import Derived.WalkKit
import Derived.WalkSpells
import Derived.WalkLawsBesides
import Derived.Deep.OwnRows
import Derived.Deep.QuietTactic
import Derived.BigQuiet
import Derived.BigRegion
import Derived.Deep.RegionHeld3
import Derived.Deep.RegionWith
import Derived.Deep.DrawnRows
import Derived.Deep.DeepMust
import Derived.Test.YbulkbfeqFill
namespace Go.Proofs.Ybulkbfeq.Law2
open Go.RowKit
attribute [local go_sem] run_store_float
attribute [local go_sem ↓] Go.wp_at_zero Go.wp_at_succ
set_option linter.unusedVariables false
set_option maxRecDepth 1000000 in
set_option maxHeartbeats 4000000 in
theorem q_loop {c0 c1 c3 c4 c7 c8 c9 c10 c11 c12 c13 c14 c15 c16 c17 c18 c19 c20 c21 c22 c23 c24 c25 c26 c27 c28 c29 c30 c31 c32 c33 c34 c35 c36 c37 c38 c39 c40 c41 c42 c43 c44 c45 c46 c47 c48 c49 c50 c51 c52 c53 c54 c55 c56 c57 c58 c59 c60 c61 c62 c63 c64 c65 c66 c67 c68 c69 c70 c71 c72 c73 c74 c75 c76 c77 c78 c79 c80 c81 c82 c83 c84 c85 c86 c87 c88 c89 c90 c91 c92 c93 c94 c95 c96 c97 c98 c99 c100 c101 c102 c103 c104 c105 c106 c107 c108 c109 c110 c111 c112 c113 c114 c115 c116 c117 c118 c119 c120 c121 c122 c123 c124 c125 c126 c127 c128 c129 c130 c131 c132 c133 c134 c135 c136 c137 c138 c139 c140 c141 c142 c143 c144 c145 c146 c147 c148 c149 c150 c151 c152 c153 c154 c155 c156 c157 c158 c159 c160 c161 c162 c163 c164 : Value} (H : Nat) (E : Nat → Int) (w1 w : World) (Q : Exit → Act → World → Prop) (hE : ∀ i, i < 4 → w1.cell? ⟨H, i, none⟩ = some (.int .i8 (E i))) (hE8 : ∀ i, -128 ≤ E i ∧ E i ≤ 127) (hb : Kept (H + 1) w1 w) (hrow : w.rowIs (H + 1) 36 4 fun _ => FV 0)
    (hQ : ∀ (u6 u21 u22 u23 u24 u25 u26 u27 u28 u29 u30 u31 : Value) (w' : World), Kept (H + 1) w1 w' → (w'.rowIs (H + 1) 36 4 fun i => FV (if i < 4 then floatOfInt .f64 ((E i).tmod 9) else 0)) → Q (.exit 0) ⟨#[c0, c1, (.pointer (some ⟨H, 0, none⟩)), c3, c4, (.pointer (some ⟨H + 1, 0, none⟩)), u6, c7, c8, c9, c10, c11, c12, c13, c14, c15, c16, c17, c18, c19, c20, u21, u22, u23, u24, u25, u26, u27, u28, u29, u30, u31, c32, c33, c34, c35, c36, c37, c38, c39, c40, c41, c42, c43, c44, c45, c46, c47, c48, c49, c50, c51, c52, c53, c54, c55, c56, c57, c58, c59, c60, c61, c62, c63, c64, c65, c66, c67, c68, c69, c70, c71, c72, c73, c74, c75, c76, c77, c78, c79, c80, c81, c82, c83, c84, c85, c86, c87, c88, c89, c90, c91, c92, c93, c94, c95, c96, c97, c98, c99, c100, c101, c102, c103, c104, c105, c106, c107, c108, c109, c110, c111, c112, c113, c114, c115, c116, c117, c118, c119, c120, c121, c122, c123, c124, c125, c126, c127, c128, c129, c130, c131, c132, c133, c134, c135, c136, c137, c138, c139, c140, c141, c142, c143, c144, c145, c146, c147, c148, c149, c150, c151, c152, c153, c154, c155, c156, c157, c158, c159, c160, c161, c162, c163, c164], []⟩ w') :
    Code.wp Yba.prog ((Yba.f4.body.bind (findBlock 0)).getD .skip) Q ⟨#[c0, c1, (.pointer (some ⟨H, 0, none⟩)), c3, c4, (.pointer (some ⟨H + 1, 0, none⟩)), (.int .i64 0), c7, c8, c9, c10, c11, c12, c13, c14, c15, c16, c17, c18, c19, c20, c21, c22, c23, c24, c25, c26, c27, c28, c29, c30, c31, c32, c33, c34, c35, c36, c37, c38, c39, c40, c41, c42, c43, c44, c45, c46, c47, c48, c49, c50, c51, c52, c53, c54, c55, c56, c57, c58, c59, c60, c61, c62, c63, c64, c65, c66, c67, c68, c69, c70, c71, c72, c73, c74, c75, c76, c77, c78, c79, c80, c81, c82, c83, c84, c85, c86, c87, c88, c89, c90, c91, c92, c93, c94, c95, c96, c97, c98, c99, c100, c101, c102, c103, c104, c105, c106, c107, c108, c109, c110, c111, c112, c113, c114, c115, c116, c117, c118, c119, c120, c121, c122, c123, c124, c125, c126, c127, c128, c129, c130, c131, c132, c133, c134, c135, c136, c137, c138, c139, c140, c141, c142, c143, c144, c145, c146, c147, c148, c149, c150, c151, c152, c153, c154, c155, c156, c157, c158, c159, c160, c161, c162, c163, c164], []⟩ w := by
  refine outOf ?_
  conv => arg 2; whnf
  go_wp2
  go_loopw [6] (fun i wr => ∃ k : Nat, k ≤ 4 ∧ i = .int .i64 k ∧ Kept (H + 1) w1 wr ∧ wr.rowIs (H + 1) 36 4 fun i => FV (if i < k then floatOfInt .f64 ((E i).tmod 9) else 0)) (fun i _ => 4 - (intOf i).toNat)
  case atStart => exact ⟨0, by omega, rfl, hb, hrow.congr fun i _ => by simp⟩
  case round =>
    obtain ⟨k, hk, rfl, hbr, hr⟩ := hrel
    by_cases hlt : k < 4
    · have h1 : wr.cell? ⟨H, k, none⟩ = some (.int .i8 (E k)) := (hbr.cell (by show H ≠ H + 1; omega)).trans (hE k hlt)
      have h2 := hr.cell (i := k) hlt
      have z2 := hr.frozen k
      have R := hr.set k (FV (floatOfInt .f64 ((E k).tmod 9)))
      have he := hE8 k
      have HE := hide (show ∀ i, _ = FV (if i < k + 1 then floatOfInt .f64 ((E i).tmod 9) else 0) from fun i => set_upto FV k i (floatOfInt .f64 ((E k).tmod 9)) (fun i => floatOfInt .f64 ((E i).tmod 9)) (fun _ => 0) rfl)
      generalize E k = x at h1 he R HE
      generalize hold : FV _ = old at h2
      clear hQ hb hrow hr hE hE8 hold
      obtain ⟨e1, e2⟩ := he
      go_wp2
      go_roundw
      case rel => exact ⟨k + 1, by omega, by go_num, hbr.setCell k _, R.congr fun i _ => HE.out i⟩
      case measure => simp [intOf]; omega
    · obtain rfl : k = 4 := by omega
      have hq := fun (u6 u21 u22 u23 u24 u25 u26 u27 u28 u29 u30 u31 : Value) => hQ u6 u21 u22 u23 u24 u25 u26 u27 u28 u29 u30 u31 wr hbr hr
      clear hQ hb hrow hr hE hE8
      go_wp2
      exact hq .. 
set_option maxRecDepth 1000000 in
set_option maxHeartbeats 4000000 in
theorem nm_loop {c0 c1 c2 c3 c4 c6 c7 c11 c12 c13 c14 c15 c16 c17 c18 c19 c20 c21 c22 c23 c24 c25 c26 c27 c28 c29 c30 c31 c32 c33 c34 c35 c36 c37 c38 c39 c40 c41 c42 c43 c44 c45 c46 c47 c48 c49 c50 c51 c52 c53 c54 c55 c56 c57 c58 c59 c60 c61 c62 c63 c64 c65 c66 c67 c68 c69 c70 c71 c72 c73 c74 c75 c76 c77 c78 c79 c80 c81 c82 c83 c84 c85 c86 c87 c88 c89 c90 c91 c92 c93 c94 c95 c96 c97 c98 c99 c100 c101 c102 c103 c104 c105 c106 c107 c108 c109 c110 c111 c112 c113 c114 c115 c116 c117 c118 c119 c120 c121 c122 c123 c124 c125 c126 c127 c128 c129 c130 c131 c132 c133 c134 c135 c136 c137 c138 c139 c140 c141 c142 c143 c144 c145 c146 c147 c148 c149 c150 c151 c152 c153 c154 c155 c156 c157 c158 c159 c160 c161 c162 c163 c164 : Value} (G St M : Nat) (T q : Nat → Nat) (w1 w : World) (Q : Exit → Act → World → Prop) (hG : G ≠ M) (hSt : St ≠ M) (hT : ∀ r, r < 2 → T r < 2) (hst : ∀ i, i < 2 → w1.cell? ⟨St, i, none⟩ = some (.int .i64 (T i : Int))) (hq4 : ∀ i, i < 4 → w1.cell? ⟨G, i, none⟩ = some (FV (q i))) (hb : Kept M w1 w) (hrow : w.rowIs M 36 4 fun _ => FV 0)
    (hQ : ∀ (u10 u44 u45 u46 u47 u48 u49 u50 u51 u52 u53 u54 u55 u56 u57 u58 u59 u60 u61 u62 u63 u64 u65 u66 u67 u68 u69 : Value) (w' : World), Kept M w1 w' → (w'.rowIs M 36 4 fun i => FV (nmF T q 2 i)) → Q (.exit 2) ⟨#[c0, c1, c2, c3, c4, (.pointer (some ⟨G, 0, none⟩)), c6, c7, (.slice (some ⟨St, 0, none⟩) 2 2), (.pointer (some ⟨M, 0, none⟩)), u10, c11, c12, c13, c14, c15, c16, c17, c18, c19, c20, c21, c22, c23, c24, c25, c26, c27, c28, c29, c30, c31, c32, c33, c34, c35, c36, c37, c38, c39, c40, c41, c42, c43, u44, u45, u46, u47, u48, u49, u50, u51, u52, u53, u54, u55, u56, u57, u58, u59, u60, u61, u62, u63, u64, u65, u66, u67, u68, u69, c70, c71, c72, c73, c74, c75, c76, c77, c78, c79, c80, c81, c82, c83, c84, c85, c86, c87, c88, c89, c90, c91, c92, c93, c94, c95, c96, c97, c98, c99, c100, c101, c102, c103, c104, c105, c106, c107, c108, c109, c110, c111, c112, c113, c114, c115, c116, c117, c118, c119, c120, c121, c122, c123, c124, c125, c126, c127, c128, c129, c130, c131, c132, c133, c134, c135, c136, c137, c138, c139, c140, c141, c142, c143, c144, c145, c146, c147, c148, c149, c150, c151, c152, c153, c154, c155, c156, c157, c158, c159, c160, c161, c162, c163, c164], []⟩ w') :
    Code.wp Yba.prog ((Yba.f4.body.bind (findBlock 2)).getD .skip) Q ⟨#[c0, c1, c2, c3, c4, (.pointer (some ⟨G, 0, none⟩)), c6, c7, (.slice (some ⟨St, 0, none⟩) 2 2), (.pointer (some ⟨M, 0, none⟩)), (.int .i64 0), c11, c12, c13, c14, c15, c16, c17, c18, c19, c20, c21, c22, c23, c24, c25, c26, c27, c28, c29, c30, c31, c32, c33, c34, c35, c36, c37, c38, c39, c40, c41, c42, c43, c44, c45, c46, c47, c48, c49, c50, c51, c52, c53, c54, c55, c56, c57, c58, c59, c60, c61, c62, c63, c64, c65, c66, c67, c68, c69, c70, c71, c72, c73, c74, c75, c76, c77, c78, c79, c80, c81, c82, c83, c84, c85, c86, c87, c88, c89, c90, c91, c92, c93, c94, c95, c96, c97, c98, c99, c100, c101, c102, c103, c104, c105, c106, c107, c108, c109, c110, c111, c112, c113, c114, c115, c116, c117, c118, c119, c120, c121, c122, c123, c124, c125, c126, c127, c128, c129, c130, c131, c132, c133, c134, c135, c136, c137, c138, c139, c140, c141, c142, c143, c144, c145, c146, c147, c148, c149, c150, c151, c152, c153, c154, c155, c156, c157, c158, c159, c160, c161, c162, c163, c164], []⟩ w := by
  refine outOf ?_
  conv => arg 2; whnf
  go_wp2
  go_loopw [10] (fun i wr => ∃ k : Nat, k ≤ 2 ∧ i = .int .i64 k ∧ Kept M w1 wr ∧ wr.rowIs M 36 4 fun i => FV (nmF T q k i)) (fun i _ => 2 - (intOf i).toNat)
  case atStart => exact ⟨0, by omega, rfl, hb, hrow.congr fun i _ => by simp [nmF]⟩
  case round =>
    obtain ⟨k, hk, rfl, hbr, hr⟩ := hrel
    by_cases hlt : k < 2
    · have hTk := hT k hlt
      have h1 : wr.cell? ⟨St, k, none⟩ = some (.int .i64 (T k : Int)) := (hbr.cell (by show St ≠ M; exact hSt)).trans (hst k hlt)
      have h2 : wr.cell? ⟨G, T k * 2, none⟩ = some (FV (q (T k * 2))) := (hbr.cell (by show G ≠ M; exact hG)).trans (hq4 _ (by omega))
      have h3 : wr.cell? ⟨G, T k * 2 + 1, none⟩ = some (FV (q (T k * 2 + 1))) := (hbr.cell (by show G ≠ M; exact hG)).trans (hq4 _ (by omega))
      have h4 := hr.cell (i := k * 2) (by omega)
      have z4 := hr.frozen (k * 2)
      have h5 := hr.cell (i := k * 2 + 1) (by omega)
      have z5 := hr.frozen (k * 2 + 1)
      have R := (hr.set (k * 2) (FV (q (T k * 2)))).set (k * 2 + 1) (FV (q (T k * 2 + 1)))
      have HE := hide (fun i => nmF_step T q k i)
      generalize T k = t at h1 h2 h3 R hTk HE
      generalize q (t * 2) = x at h2 R HE
      generalize q (t * 2 + 1) = y at h3 R HE
      generalize ho4 : FV _ = o4 at h4
      generalize ho5 : FV _ = o5 at h5
      have hGM : M ≠ G := fun h => hG h.symm
      have hSM : M ≠ St := fun h => hSt h.symm
      clear hQ hb hrow hr hst hq4 hT ho4 ho5
      go_wp2
      go_roundw
      case rel => exact ⟨k + 1, by omega, by go_num, (hbr.setCell _ _).setCell _ _, R.congr fun i _ => by rw [← HE.out i]; split <;> first | rfl | (split <;> rfl)⟩
      case measure => simp [intOf]; omega
    · obtain rfl : k = 2 := by omega
      have hq := fun (u10 u44 u45 u46 u47 u48 u49 u50 u51 u52 u53 u54 u55 u56 u57 u58 u59 u60 u61 u62 u63 u64 u65 u66 u67 u68 u69 : Value) => hQ u10 u44 u45 u46 u47 u48 u49 u50 u51 u52 u53 u54 u55 u56 u57 u58 u59 u60 u61 u62 u63 u64 u65 u66 u67 u68 u69 wr hbr hr
      clear hQ hb hrow hr hst hq4 hT
      go_wp2
      exact hq .. 

end Go.Proofs.Ybulkbfeq.Law2
