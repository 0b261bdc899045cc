/- WRITTEN BY PROGRAM (genko.py): LawS2822BMostCommon's first loop. -/
import Derived.Test.YbulkbfkoM1
namespace Go.Proofs.Ybulkbfko
open Go.RowKit
attribute [local go_sem ↓] Go.wp_at_zero Go.wp_at_succ
set_option linter.unusedVariables false

/-- What one table holds behind i bytes. -/
def One (x : Nat → Nat) (i : Nat) (T : Nat → Int) : Prop := ∀ b, b < 256 → T b = (occ x b i : Int)
theorem One.step {x : Nat → Nat} {i : Nat} {T : Nat → Int} (h : One x i T) (hx : x i < 256) : One x (i + 1) (upd T (x i) (T (x i) + 1)) := fun b hb => by
  rw [occ_step]
  unfold upd
  by_cases e : b = x i
  · subst e
    rw [if_pos rfl, if_pos rfl, h _ hb]
  · rw [if_neg e, if_neg (fun h => e h.symm), h _ hb]
    omega

set_option maxRecDepth 1000000 in
set_option maxHeartbeats 4000000 in
theorem one_loop {c1 c2 c5 c6 c7 c8 c9 c10 c11 c12 c13 c14 c15 c16 c17 c18 c19 c20 c21 c22 c23 c24 c25 c26 c27 c28 c29 c30 c31 c32 c33 c34 c35 c36 c37 c38 c39 c40 : Value} (a : Option Addr) (n cap R : Nat) (x : Nat → Nat) (w : World) (Q : Exit → Act → World → Prop)
    (hQ : ∀ (u4 u10 u11 u12 u13 u14 u15 u16 u17 u18 u19 u20 u21 u22 u23 : Value) (T : Nat → Int) (w' : World), One x n T ∧ Ints w' R 29 256 T ∧ Kept R w w' → Q (.exit 0) ⟨#[(.slice a n cap), c1, c2, (.pointer (some ⟨R, 0, none⟩)), u4, c5, c6, c7, c8, c9, u10, u11, u12, u13, u14, u15, u16, u17, u18, u19, u20, u21, u22, u23, c24, c25, c26, c27, c28, c29, c30, c31, c32, c33, c34, c35, c36, c37, c38, c39, c40], []⟩ w')
    (hn : n ≤ 65536) (hx : ∀ i, x i < 256) (hd : 0 < n → ∃ tb toff, a = some ⟨tb, toff, none⟩ ∧ tb ≠ R ∧ ∀ j, j < n → w.cell? ⟨tb, toff + j, none⟩ = some (.int .u8 (x j : Int))) (hr : Ints w R 29 256 (fun _ => 0)) :
    Code.wp Yba.prog ((Yba.f4.body.bind (findBlock 0)).getD .skip) Q ⟨#[(.slice a n cap), c1, c2, (.pointer (some ⟨R, 0, none⟩)), (.int .i64 0), c5, c6, c7, c8, c9, c10, c11, c12, c13, c14, c15, c16, c17, c18, c19, c20, c21, c22, c23, c24, c25, c26, c27, c28, c29, c30, c31, c32, c33, c34, c35, c36, c37, c38, c39, c40], []⟩ w := by
  refine outOf ?_
  conv => arg 2; whnf
  go_wp2
  go_loopw [4] (fun i wr => ∃ (k : Nat) (T : Nat → Int), k ≤ n ∧ i = .int .i64 (k : Int) ∧ One x k T ∧ Ints wr R 29 256 T ∧ Kept R w wr) (fun i _ => n - (intOf i).toNat)
  case atStart => exact ⟨0, _, by omega, rfl, fun b hb => rfl, hr, Kept.refl _ _⟩
  case round =>
    obtain ⟨k, T, hk, rfl, hT, hR, hK⟩ := hrel
    by_cases hlt : k < n
    · have hd0 : decide ((k : Int) < (n : Int)) = true := by simp; omega
      have hk0 : (k : Int) < (n : Int) := by omega
      have v1 : IntKind.i64.wrap ((k : Int) + 1) = (k : Int) + 1 := IntWalk.i64_in _ ⟨by omega, by omega⟩
      obtain ⟨tb, toff, rfl, htR, hc⟩ := hd (by omega)
      have HC := hide hc
      have y0 := hx k
      have y1 : (x k : Int) < 256 := by omega
      obtain ⟨T1, e1⟩ : ∃ U, U = upd T (x k) (T (x k) + 1) := ⟨_, rfl⟩
      have t1 : One x (k + 1) T1 := by rw [e1]; exact hT.step y0
      have g0 := hT (x k) y0
      have g1 := occ_le x (x k) k
      have z0 : IntKind.i64.wrap (T (x k) + 1) = T (x k) + 1 := IntWalk.i64_in _ ⟨by omega, by omega⟩
      have HT1 := hide t1
      have HE1 := hide e1
      have d0 : wr.cell? ⟨tb, toff + k, none⟩ = some (.int .u8 (x k : Int)) := (hK.cell (a := ⟨tb, toff + k, none⟩) htR).trans (HC.out k (by omega))
      have m0 := hR.cell (i := x k) (by omega)
      have HK0 := hide hK
      have HR0 := hide hR
      clear hQ hc hx hT t1 e1 hK hR hr hd g0 g1
      go_wp2_with (first
        | (refine wpList_put rfl (.tmp 23) (.tmp 22) rfl rfl R 29 256 (x k) T (T (x k) + 1) T1 HE1.out rfl rfl HR0.out (by omega) ?_; intro w1 r1 k1; have HR1 := hide r1; have HK1 := hide (HK0.out.trans k1); clear r1 k1))
      go_roundw
      case rel => exact ⟨k + 1, T1, by omega, by rw [Int.natCast_add]; rfl, HT1.out, HR1.out, HK1.out⟩
      case measure => simp [intOf]; omega
    · have hkn : k = n := by omega
      subst hkn
      have HQ := hide (hQ (T := T) (w' := wr))
      have HE := hide (show One x k T ∧ Ints wr R 29 256 T ∧ Kept R w wr from ⟨hT, hR, hK⟩)
      clear hQ hd hT hR hK hr
      go_wp2
      exact HQ.out _ _ _ _ _ _ _ _ _ _ _ _ _ _ _ HE.out

end Go.Proofs.Ybulkbfko
