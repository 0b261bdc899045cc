/- WRITTEN BY PROGRAM (gen17.py): the first loop of (*orderTrial).runs. -/
import Derived.Test.YbulkbfhwFollows
import Derived.Test.YbulkbfhwOwn
namespace Go.Proofs.Ybulkbfhw
open Go.RowKit
attribute [local go_sem ↓] Go.wp_at_zero Go.wp_at_succ
set_option linter.unusedVariables false

set_option maxRecDepth 1000000 in
set_option maxHeartbeats 4000000 in
theorem start_loop {c0 c1 c2 c3 c4 c6 c9 c10 c11 c12 c13 c14 c15 c16 c17 c18 c19 c20 c21 c22 c23 c24 c25 c26 c27 c28 c29 c30 c31 c32 c33 c34 c35 c36 c37 c38 c39 c40 c41 c42 c43 c44 c45 c46 c47 c48 c49 c50 c51 c52 c53 c54 c55 c56 c57 c58 c59 c60 c61 c62 c63 c64 c65 c66 c67 c68 c69 c70 c71 c72 c73 c74 c75 c76 c77 c78 c79 c80 c81 c82 c83 c84 c85 c86 c87 c88 c89 c90 c91 c92 c93 c94 : Value} (B Lv Nv Ev Fv Lb V T Sb K n : Nat) (ex : Int) (st lab : Nat → Int) (w1 w : World) (Q : Exit → Act → World → Prop) (hn : n ≤ 1024) (hK : K ≤ 2000) (hmono : ∀ a b, a < b → b < K → st a < st b) (hex : 0 ≤ ex ∧ ex ≤ 100) (hlab : ∀ i, i < n → 0 ≤ lab i ∧ lab i ≤ 100000) (hE : Env w1 B Lv Nv Ev Fv Lb V T Sb K n ex st lab) (hB : B ≤ w1.heap.size) (hb : Below B w1 w)
    (hQ : ∀ (u29 u30 u31 u32 u33 u34 u35 u36 u37 u38 : Value) (w' : World) (s : Nat), Start st K ex lab n s → Below B w1 w' → Q (.exit 0) ⟨#[c0, c1, c2, c3, c4, (.pointer (some ⟨Nv, 0, none⟩)), c6, (.func (.func 14) #[] #[.pointer (some ⟨Lv, 0, none⟩), .pointer (some ⟨Nv, 0, none⟩), .pointer (some ⟨Ev, 0, none⟩), .pointer (some ⟨Fv, 0, none⟩)]), (.int .i64 (s : Int)), c9, c10, c11, c12, c13, c14, c15, c16, c17, c18, c19, c20, c21, c22, c23, c24, c25, c26, c27, c28, u29, u30, u31, u32, u33, u34, u35, u36, u37, u38, c39, c40, c41, c42, c43, c44, c45, c46, c47, c48, c49, c50, c51, c52, c53, c54, c55, c56, c57, c58, c59, c60, c61, c62, c63, c64, c65, c66, c67, c68, c69, c70, c71, c72, c73, c74, c75, c76, c77, c78, c79, c80, c81, c82, c83, c84, c85, c86, c87, c88, c89, c90, c91, c92, c93, c94], []⟩ w') :
    Code.wp Yba.prog ((Yba.f6.body.bind (findBlock 0)).getD .skip) Q ⟨#[c0, c1, c2, c3, c4, (.pointer (some ⟨Nv, 0, none⟩)), c6, (.func (.func 14) #[] #[.pointer (some ⟨Lv, 0, none⟩), .pointer (some ⟨Nv, 0, none⟩), .pointer (some ⟨Ev, 0, none⟩), .pointer (some ⟨Fv, 0, none⟩)]), (.int .i64 0), c9, c10, c11, c12, c13, c14, c15, c16, c17, c18, c19, c20, c21, c22, c23, c24, c25, c26, c27, c28, c29, c30, c31, c32, c33, c34, c35, c36, c37, c38, c39, c40, c41, c42, c43, c44, c45, c46, c47, c48, c49, c50, c51, c52, c53, c54, c55, c56, c57, c58, c59, c60, c61, c62, c63, c64, c65, c66, c67, c68, c69, c70, c71, c72, c73, c74, c75, c76, c77, c78, c79, c80, c81, c82, c83, c84, c85, c86, c87, c88, c89, c90, c91, c92, c93, c94], []⟩ w := by
  refine outOf ?_
  conv => arg 2; whnf
  go_wp2
  go_loopw [8] (fun i wr => ∃ k : Nat, k ≤ n ∧ i = .int .i64 k ∧ (∀ x, x < k → folB st K ex lab n x = true) ∧ Below B w1 wr) (fun i _ => n - (intOf i).toNat)
  case atStart => exact ⟨0, by omega, rfl, fun x hx => by omega, hb⟩
  case round =>
    obtain ⟨k, hk, rfl, hf, hbr⟩ := hrel
    have hEr := hE.below hbr
    have cn := hEr.cn
    have hBr : B ≤ wr.heap.size := Nat.le_trans hB hbr.size
    by_cases hlt : k < n
    · have HC := hide (follows_any B Lv Nv Ev Fv Lb V T Sb K n ex st lab k wr hEr hBr (by omega) hK hmono hex hlab hlt)
      have HF := hide hf
      have HB := hide hbr
      cases hfk : folB st K ex lab n k with
      | true =>
        rw [hfk] at HC
        have HK := hide hfk
        clear hE hEr hf hbr hmono hlab hQ hfk hb
        go_wp2_with fail
        refine HC.out.mono ?_
        rintro e w2 ⟨rfl, hb2⟩
        have HB2 := hide hb2
        clear hb2 HC
        go_wp2
        go_roundw
        case rel => exact ⟨k + 1, by omega, by go_num, upto_succ HF.out HK.out, HB.out.trans HB2.out⟩
        case measure => simp [intOf]; omega
      | false =>
        rw [hfk] at HC
        have hq := fun (u29 u30 u31 u32 u33 u34 u35 u36 u37 u38 : Value) (w2 : World) (h : Below B w1 w2) => hQ u29 u30 u31 u32 u33 u34 u35 u36 u37 u38 w2 k ⟨by omega, hf, fun _ => hfk⟩ h
        clear hE hEr hf hbr hmono hlab hQ hfk hb
        go_wp2_with fail
        refine HC.out.mono ?_
        rintro e w2 ⟨rfl, hb2⟩
        have HB2 := hide (HB.out.trans hb2)
        clear hb2 HC HB
        go_wp2
        exact hq _ _ _ _ _ _ _ _ _ _ w2 HB2.out
    · obtain rfl : k = n := by omega
      have hq := fun (u29 u30 u31 u32 u33 u34 u35 u36 u37 u38 : Value) => hQ u29 u30 u31 u32 u33 u34 u35 u36 u37 u38 wr k ⟨by omega, hf, fun h => by omega⟩ hbr
      clear hE hEr hf hbr hmono hlab hQ hb
      go_wp2
      exact hq .. 

end Go.Proofs.Ybulkbfhw
