/- WRITTEN BY PROGRAM (genko.py): the loop of countBytes that takes the bytes that are left. -/
import Derived.Test.YbulkbfkoC1
namespace Go.Proofs.Ybulkbfko
open Go.RowKit
attribute [local go_sem ↓] Go.wp_at_zero Go.wp_at_succ
set_option linter.unusedVariables false

set_option maxRecDepth 1000000 in
set_option maxHeartbeats 4000000 in
theorem rest_loop {c0 c2 c3 c6 c7 c8 c9 c10 c11 c12 c13 c14 c15 c16 c17 c18 c19 c20 c21 c22 c23 c24 c25 c26 c27 c28 c29 c30 c31 c32 c33 c34 c35 c36 c37 c38 c39 c40 c41 c42 c43 c44 c45 c46 c47 c48 c49 c50 c51 c52 c53 c54 c55 c56 c57 c58 c59 c60 c61 c62 c63 c64 c65 c66 c67 c68 c69 c70 c71 c72 c73 c74 c75 c76 c77 c78 c79 c80 c81 c82 c83 c84 c85 c86 c87 c88 c89 c90 c91 c92 c93 c94 c95 c96 c97 c98 c99 c100 c101 c102 c103 : Value} (a : Option Addr) (n cap R s : Nat) (x : Nat → Nat) (T0 : Nat → Int) (w : World) (Q : Exit → Act → World → Prop)
    (hQ : ∀ (u57 u58 u59 u60 u61 u62 u63 u64 u65 u66 u67 u68 u69 u70 u71 u72 : Value) (u5 : Value) (T : Nat → Int) (w' : World), Tab x n T ∧ Ints w' R 32 1024 T ∧ Kept R w w' → Q (.exit 2) ⟨#[c0, (.slice a n cap), c2, c3, (.pointer (some ⟨R, 0, none⟩)), u5, c6, c7, c8, c9, c10, c11, c12, c13, c14, c15, c16, c17, c18, c19, c20, c21, c22, c23, c24, c25, c26, c27, c28, c29, c30, c31, c32, c33, c34, c35, c36, c37, c38, c39, c40, c41, c42, c43, c44, c45, c46, c47, c48, c49, c50, c51, c52, c53, c54, c55, c56, u57, u58, u59, u60, u61, u62, u63, u64, u65, u66, u67, u68, u69, u70, u71, u72, c73, c74, c75, c76, c77, c78, c79, c80, c81, c82, c83, c84, c85, c86, c87, c88, c89, c90, c91, c92, c93, c94, c95, c96, c97, c98, c99, c100, c101, c102, c103], []⟩ w')
    (hn : n ≤ 65536) (hs : s ≤ n) (hx : ∀ i, x i < 256) (hd : 0 < n → ∃ tb toff, a = some ⟨tb, toff, none⟩ ∧ tb ≠ R ∧ ∀ j, j < n → w.cell? ⟨tb, toff + j, none⟩ = some (.int .u8 (x j : Int))) (hT0 : Tab x s T0) (hr : Ints w R 32 1024 T0) :
    Code.wp Yba.prog ((Yba.f6.body.bind (findBlock 2)).getD .skip) Q ⟨#[c0, (.slice a n cap), c2, c3, (.pointer (some ⟨R, 0, none⟩)), (.int .i64 (s : Int)), c6, c7, c8, c9, c10, c11, c12, c13, c14, c15, c16, c17, c18, c19, c20, c21, c22, c23, c24, c25, c26, c27, c28, c29, c30, c31, c32, c33, c34, c35, c36, c37, c38, c39, c40, c41, c42, c43, c44, c45, c46, c47, c48, c49, c50, c51, c52, c53, c54, c55, c56, c57, c58, c59, c60, c61, c62, c63, c64, c65, c66, c67, c68, c69, c70, c71, c72, c73, c74, c75, c76, c77, c78, c79, c80, c81, c82, c83, c84, c85, c86, c87, c88, c89, c90, c91, c92, c93, c94, c95, c96, c97, c98, c99, c100, c101, c102, c103], []⟩ w := by
  refine outOf ?_
  conv => arg 2; whnf
  go_wp2
  go_loopw [5] (fun i wr => ∃ (k : Nat) (T : Nat → Int), k ≤ n ∧ i = .int .i64 (k : Int) ∧ Tab x k T ∧ Ints wr R 32 1024 T ∧ Kept R w wr) (fun i _ => n - (intOf i).toNat)
  case atStart => exact ⟨s, _, hs, rfl, hT0, hr, Kept.refl _ _⟩
  case round =>
    obtain ⟨k, T, hk, rfl, hT, hR, hK⟩ := hrel
    by_cases hlt : k < n
    · have hd0 : decide ((k : Int) < (n : Int)) = true := by simp; omega
      have hk0 : (k : Int) < (n : Int) := by omega
      have v1 : IntKind.i64.wrap ((k : Int) + 1) = (k : Int) + 1 := IntWalk.i64_in _ ⟨by omega, by omega⟩
      obtain ⟨tb, toff, rfl, htR, hc⟩ := hd (by omega)
      have HC := hide hc
      have y0 := hx k
      obtain ⟨T1, e1⟩ : ∃ U, U = upd T (x k) (T (x k) + 1) := ⟨_, rfl⟩
      have t1 : Tab x (k + 1) T1 := by rw [e1]; exact hT.step0 y0
      have g0 := hT.1 (x k)
      have z0 : IntKind.i64.wrap (T (x k) + 1) = T (x k) + 1 := IntWalk.i64_in _ ⟨by omega, by omega⟩
      have HT1 := hide t1
      have HE1 := hide e1
      have d0 : wr.cell? ⟨tb, toff + k, none⟩ = some (.int .u8 (x k : Int)) := (hK.cell (a := ⟨tb, toff + k, none⟩) htR).trans (HC.out k (by omega))
      have m0 := hR.cell (i := x k) (by omega)
      have HK0 := hide hK
      have HR0 := hide hR
      clear hQ hc hx hT t1 e1 hK hR hr hd hT0
      go_wp2_with (first
        | (refine wpList_put rfl (.tmp 72) (.tmp 70) rfl rfl R 32 1024 (x k) T (T (x k) + 1) T1 HE1.out rfl rfl HR0.out (by omega) ?_; intro w1 r1 k1; have HR1 := hide r1; have HK1 := hide (HK0.out.trans k1); clear r1 k1))
      go_roundw
      case rel => exact ⟨k + 1, T1, by omega, by rw [Int.natCast_add]; rfl, HT1.out, HR1.out, HK1.out⟩
      case measure => simp [intOf]; omega
    · have hkn : k = n := by omega
      subst hkn
      have HQ := hide (hQ (T := T) (w' := wr))
      have HE := hide (show Tab x k T ∧ Ints wr R 32 1024 T ∧ Kept R w wr from ⟨hT, hR, hK⟩)
      clear hQ hd hT hR hK hr hT0
      go_wp2
      exact HQ.out _ _ _ _ _ _ _ _ _ _ _ _ _ _ _ _ _ HE.out

end Go.Proofs.Ybulkbfko
