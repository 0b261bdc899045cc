/- WRITTEN BY PROGRAM (genko.py): LawS2822BAdds's first loop. -/
import Derived.Test.YbulkbfkoCount
namespace Go.Proofs.Ybulkbfko
open Go.RowKit
attribute [local go_sem ↓] Go.wp_at_zero Go.wp_at_succ
set_option linter.unusedVariables false

theorem wrap_step (z : Int) : wrap64 (IntKind.i64.wrap z + 1) = IntKind.i64.wrap (z + 1) := by
  rw [IntWalk.i64_left, IntWalk.i64_left]
  unfold wrap64
  omega
theorem counted_step (x : Nat → Nat) (k : Nat) (c0 : Nat → Int) (hx : x k < 256) (j : Nat) : upd (counted x k c0) (x k) (wrap64 (counted x k c0 (x k) + 1)) j = counted x (k + 1) c0 j := by
  have e1 : counted x k c0 (x k) = IntKind.i64.wrap (c0 (x k) + (occ x (x k) k : Int)) := if_pos hx
  rw [e1, wrap_step]
  unfold upd counted
  by_cases e : j = x k
  · subst e
    rw [if_pos rfl, if_pos hx, occ_step, if_pos rfl]
    congr 1
    omega
  · rw [if_neg e]
    by_cases l : j < 256
    · rw [if_pos l, if_pos l, occ_step, if_neg (fun h => e h.symm), Int.add_zero]
    · rw [if_neg l, if_neg l]

set_option maxRecDepth 1000000 in
set_option maxHeartbeats 4000000 in
theorem want_loop {c0 c2 c3 c4 c5 c6 c9 c10 c11 c12 c13 c14 c15 c16 c17 c18 c19 c20 c21 c22 c23 c24 c25 c26 c27 c28 c29 c30 c31 c32 c33 c34 c35 c36 c37 c38 c39 c40 c41 c42 c43 c44 c45 c46 : Value} (a : Option Addr) (n cap V : Nat) (x : Nat → Nat) (ci : Nat → Int) (w : World) (Q : Exit → Act → World → Prop)
    (hQ : ∀ (u8 u19 u20 u21 u22 u23 u24 u25 u26 u27 u28 u29 u30 u31 u32 : Value) (w' : World), Ints w' V 22 286 (counted x n ci) ∧ Kept V w w' → Q (.exit 0) ⟨#[c0, (.slice a n cap), c2, c3, c4, c5, c6, (.pointer (some ⟨V, 0, none⟩)), u8, c9, c10, c11, c12, c13, c14, c15, c16, c17, c18, u19, u20, u21, u22, u23, u24, u25, u26, u27, u28, u29, u30, u31, u32, c33, c34, c35, c36, c37, c38, c39, c40, c41, c42, c43, c44, c45, c46], []⟩ w')
    (hn : n ≤ 65536) (hx : ∀ i, x i < 256) (hd : 0 < n → ∃ tb toff, a = some ⟨tb, toff, none⟩ ∧ tb ≠ V ∧ ∀ j, j < n → w.cell? ⟨tb, toff + j, none⟩ = some (.int .u8 (x j : Int))) (hr : Ints w V 22 286 (counted x 0 ci)) :
    Code.wp Yba.prog ((Yba.f3.body.bind (findBlock 0)).getD .skip) Q ⟨#[c0, (.slice a n cap), c2, c3, c4, c5, c6, (.pointer (some ⟨V, 0, none⟩)), (.int .i64 0), c9, c10, c11, c12, c13, c14, c15, c16, c17, c18, c19, c20, c21, c22, c23, c24, c25, c26, c27, c28, c29, c30, c31, c32, c33, c34, c35, c36, c37, c38, c39, c40, c41, c42, c43, c44, c45, c46], []⟩ w := by
  refine outOf ?_
  conv => arg 2; whnf
  go_wp2
  go_loopw [8] (fun i wr => ∃ k : Nat, k ≤ n ∧ i = .int .i64 (k : Int) ∧ Ints wr V 22 286 (counted x k ci) ∧ Kept V w wr) (fun i _ => n - (intOf i).toNat)
  case atStart => exact ⟨0, by omega, rfl, hr, Kept.refl _ _⟩
  case round =>
    obtain ⟨k, hk, rfl, hR, hK⟩ := hrel
    by_cases hlt : k < n
    · have hd0 : decide ((k : Int) < (n : Int)) = true := by simp; omega
      have hk0 : (k : Int) < (n : Int) := by omega
      have v1 : IntKind.i64.wrap ((k : Int) + 1) = (k : Int) + 1 := IntWalk.i64_in _ ⟨by omega, by omega⟩
      obtain ⟨tb, toff, rfl, htR, hc⟩ := hd (by omega)
      have HC := hide hc
      have y0 := hx k
      have y1 : (x k : Int) < 286 := by omega
      have HS := hide (counted_step x k ci y0)
      have d0 : wr.cell? ⟨tb, toff + k, none⟩ = some (.int .u8 (x k : Int)) := (hK.cell (a := ⟨tb, toff + k, none⟩) htR).trans (HC.out k (by omega))
      have m0 := hR.cell (i := x k) (by omega)
      have HK0 := hide hK
      have HR0 := hide hR
      clear hQ hc hx hK hR hr hd
      generalize hT : counted x k ci = T at *
      obtain ⟨T1, e1⟩ : ∃ U, U = upd T (x k) (wrap64 (T (x k) + 1)) := ⟨_, rfl⟩
      have HE1 := hide e1
      clear e1
      go_wp2_with (first
        | (refine wpList_put rfl (.tmp 32) (.tmp 31) rfl rfl V 22 286 (x k) T (wrap64 (T (x k) + 1)) T1 HE1.out rfl rfl HR0.out (by omega) ?_; intro w1 r1 k1; have HR1 := hide r1; have HK1 := hide (HK0.out.trans k1); clear r1 k1))
      go_roundw
      case rel => exact ⟨k + 1, by omega, by rw [Int.natCast_add]; rfl, HR1.out.congr (fun j _ => by rw [HE1.out]; exact HS.out j), HK1.out⟩
      case measure => simp [intOf]; omega
    · have hkn : k = n := by omega
      subst hkn
      have HQ := hide (hQ (w' := wr))
      have HE := hide (show Ints wr V 22 286 (counted x k ci) ∧ Kept V w wr from ⟨hR, hK⟩)
      clear hQ hd hR hK hr
      go_wp2
      exact HQ.out _ _ _ _ _ _ _ _ _ _ _ _ _ _ _ HE.out

end Go.Proofs.Ybulkbfko
