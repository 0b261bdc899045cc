/- WRITTEN BY PROGRAM (genko.py): the loop of countBytes that takes four bytes in turn. -/
import Derived.Test.YbulkbfkoBase
namespace Go.Proofs.Ybulkbfko
open Go.RowKit
attribute [local go_sem ↓] Go.wp_at_zero Go.wp_at_succ
set_option linter.unusedVariables false

/-- What the four tables hold behind i bytes. -/
def Tab (x : Nat → Nat) (i : Nat) (T : Nat → Int) : Prop := (∀ j, 0 ≤ T j ∧ T j ≤ (i : Int)) ∧ ∀ b, b < 256 → sum4 T b = (occ x b i : Int)
theorem Tab.zero (x : Nat → Nat) : Tab x 0 (fun _ => 0) := ⟨fun _ => ⟨Int.le_refl _, Int.le_refl _⟩, fun _ _ => rfl⟩
theorem occ_step (x : Nat → Nat) (b i : Nat) : (occ x b (i + 1) : Int) = (occ x b i : Int) + (if x i = b then 1 else 0) := by
  simp only [occ]
  split <;> simp
theorem Tab.bound {x : Nat → Nat} {i : Nat} {T : Nat → Int} (h : Tab x i T) (p : Nat) : ∀ j, 0 ≤ upd T p (T p + 1) j ∧ upd T p (T p + 1) j ≤ ((i + 1 : Nat) : Int) := by
  intro j
  have h1 := h.1 j
  have h2 := h.1 p
  unfold upd
  split <;> omega
theorem Tab.step0 {x : Nat → Nat} {i : Nat} {T : Nat → Int} (h : Tab x i T) (hx : x i < 256) : Tab x (i + 1) (upd T (x i) (T (x i) + 1)) :=
  ⟨h.bound _, fun b hb => by rw [sum4_upd0 T (x i) b hx hb, h.2 b hb, occ_step]⟩
theorem Tab.step1 {x : Nat → Nat} {i : Nat} {T : Nat → Int} (h : Tab x i T) (hx : x i < 256) : Tab x (i + 1) (upd T (256 + x i) (T (256 + x i) + 1)) :=
  ⟨h.bound _, fun b hb => by rw [sum4_upd1 T (x i) b hx hb, h.2 b hb, occ_step]⟩
theorem Tab.step2 {x : Nat → Nat} {i : Nat} {T : Nat → Int} (h : Tab x i T) (hx : x i < 256) : Tab x (i + 1) (upd T (512 + x i) (T (512 + x i) + 1)) :=
  ⟨h.bound _, fun b hb => by rw [sum4_upd2 T (x i) b hx hb, h.2 b hb, occ_step]⟩
theorem Tab.step3 {x : Nat → Nat} {i : Nat} {T : Nat → Int} (h : Tab x i T) (hx : x i < 256) : Tab x (i + 1) (upd T (768 + x i) (T (768 + x i) + 1)) :=
  ⟨h.bound _, fun b hb => by rw [sum4_upd3 T (x i) b hx hb, h.2 b hb, occ_step]⟩

set_option maxRecDepth 1000000 in
set_option maxHeartbeats 4000000 in
theorem four_loop {c0 c2 c3 c6 c7 c8 c9 c10 c11 c12 c13 c14 c15 c16 c17 c18 c19 c20 c21 c22 c23 c24 c25 c26 c27 c28 c29 c30 c31 c32 c33 c34 c35 c36 c37 c38 c39 c40 c41 c42 c43 c44 c45 c46 c47 c48 c49 c50 c51 c52 c53 c54 c55 c56 c57 c58 c59 c60 c61 c62 c63 c64 c65 c66 c67 c68 c69 c70 c71 c72 c73 c74 c75 c76 c77 c78 c79 c80 c81 c82 c83 c84 c85 c86 c87 c88 c89 c90 c91 c92 c93 c94 c95 c96 c97 c98 c99 c100 c101 c102 c103 : Value} (a : Option Addr) (n cap R : Nat) (x : Nat → Nat) (w : World) (Q : Exit → Act → World → Prop)
    (hQ : ∀ (u7 u8 u9 u10 u11 u12 u13 u14 u15 u16 u17 u18 u19 u20 u21 u22 u23 u24 u25 u26 u27 u28 u29 u30 u31 u32 u33 u34 u35 u36 u37 u38 u39 u40 u41 u42 u43 u44 u45 u46 u47 u48 u49 u50 u51 u52 u53 u54 u55 u56 : Value) (i' : Nat) (T : Nat → Int) (w' : World), i' ≤ n ∧ Tab x i' T ∧ Ints w' R 32 1024 T ∧ Kept R w w' → Q (.exit 0) ⟨#[c0, (.slice a n cap), c2, c3, (.pointer (some ⟨R, 0, none⟩)), (.int .i64 (i' : Int)), c6, u7, u8, u9, u10, u11, u12, u13, u14, u15, u16, u17, u18, u19, u20, u21, u22, u23, u24, u25, u26, u27, u28, u29, u30, u31, u32, u33, u34, u35, u36, u37, u38, u39, u40, u41, u42, u43, u44, u45, u46, u47, u48, u49, u50, u51, u52, u53, u54, u55, u56, c57, c58, c59, c60, c61, c62, c63, c64, c65, c66, c67, c68, c69, c70, c71, c72, c73, c74, c75, c76, c77, c78, c79, c80, c81, c82, c83, c84, c85, c86, c87, c88, c89, c90, c91, c92, c93, c94, c95, c96, c97, c98, c99, c100, c101, c102, c103], []⟩ w')
    (hn : n ≤ 65536) (hx : ∀ i, x i < 256) (hd : 0 < n → ∃ tb toff, a = some ⟨tb, toff, none⟩ ∧ tb ≠ R ∧ ∀ j, j < n → w.cell? ⟨tb, toff + j, none⟩ = some (.int .u8 (x j : Int))) (hr : Ints w R 32 1024 (fun _ => 0)) :
    Code.wp Yba.prog ((Yba.f6.body.bind (findBlock 0)).getD .skip) Q ⟨#[c0, (.slice a n cap), c2, c3, (.pointer (some ⟨R, 0, none⟩)), (.int .i64 0), c6, c7, c8, c9, c10, c11, c12, c13, c14, c15, c16, c17, c18, c19, c20, c21, c22, c23, c24, c25, c26, c27, c28, c29, c30, c31, c32, c33, c34, c35, c36, c37, c38, c39, c40, c41, c42, c43, c44, c45, c46, c47, c48, c49, c50, c51, c52, c53, c54, c55, c56, c57, c58, c59, c60, c61, c62, c63, c64, c65, c66, c67, c68, c69, c70, c71, c72, c73, c74, c75, c76, c77, c78, c79, c80, c81, c82, c83, c84, c85, c86, c87, c88, c89, c90, c91, c92, c93, c94, c95, c96, c97, c98, c99, c100, c101, c102, c103], []⟩ w := by
  refine outOf ?_
  conv => arg 2; whnf
  go_wp2
  go_loopw [5] (fun i wr => ∃ (k : Nat) (T : Nat → Int), k ≤ n ∧ i = .int .i64 (k : Int) ∧ Tab x k T ∧ Ints wr R 32 1024 T ∧ Kept R w wr) (fun i _ => n + 4 - (intOf i).toNat)
  case atStart => exact ⟨0, _, by omega, rfl, Tab.zero x, hr, Kept.refl _ _⟩
  case round =>
    obtain ⟨k, T, hk, rfl, hT, hR, hK⟩ := hrel
    have v0 : IntKind.i64.wrap ((k : Int) + 4) = (k : Int) + 4 := IntWalk.i64_in _ ⟨by omega, by omega⟩
    by_cases hlt : k + 4 ≤ n
    · have hd0 : decide ((k : Int) + 4 ≤ (n : Int)) = true := by simp; omega
      have hk0 : (k : Int) < (n : Int) := by omega
      have hk1 : (k : Int) + 1 < (n : Int) := by omega
      have hk2 : (k : Int) + 2 < (n : Int) := by omega
      have hk3 : (k : Int) + 3 < (n : Int) := by omega
      have v1 : IntKind.i64.wrap ((k : Int) + 1) = (k : Int) + 1 := IntWalk.i64_in _ ⟨by omega, by omega⟩
      have v2 : IntKind.i64.wrap ((k : Int) + 2) = (k : Int) + 2 := IntWalk.i64_in _ ⟨by omega, by omega⟩
      have v3 : IntKind.i64.wrap ((k : Int) + 3) = (k : Int) + 3 := IntWalk.i64_in _ ⟨by omega, by omega⟩
      obtain ⟨tb, toff, rfl, htR, hc⟩ := hd (by omega)
      have HC := hide hc
      have y0 := hx k
      have y1 := hx (k + 1)
      have y2 := hx (k + 2)
      have y3 := hx (k + 3)
      obtain ⟨T1, e1⟩ : ∃ U, U = upd T (x k) (T (x k) + 1) := ⟨_, rfl⟩
      have t1 : Tab x (k + 1) T1 := by rw [e1]; exact hT.step0 y0
      have g0 := hT.1 (x k)
      have z0 : IntKind.i64.wrap (T (x k) + 1) = T (x k) + 1 := IntWalk.i64_in _ ⟨by omega, by omega⟩
      obtain ⟨T2, e2⟩ : ∃ U, U = upd T1 (256 + x (k + 1)) (T1 (256 + x (k + 1)) + 1) := ⟨_, rfl⟩
      have t2 : Tab x (k + 2) T2 := by rw [e2]; exact t1.step1 y1
      have g1 := t1.1 (256 + x (k + 1))
      have z1 : IntKind.i64.wrap (T1 (256 + x (k + 1)) + 1) = T1 (256 + x (k + 1)) + 1 := IntWalk.i64_in _ ⟨by omega, by omega⟩
      obtain ⟨T3, e3⟩ : ∃ U, U = upd T2 (512 + x (k + 2)) (T2 (512 + x (k + 2)) + 1) := ⟨_, rfl⟩
      have t3 : Tab x (k + 3) T3 := by rw [e3]; exact t2.step2 y2
      have g2 := t2.1 (512 + x (k + 2))
      have z2 : IntKind.i64.wrap (T2 (512 + x (k + 2)) + 1) = T2 (512 + x (k + 2)) + 1 := IntWalk.i64_in _ ⟨by omega, by omega⟩
      obtain ⟨T4, e4⟩ : ∃ U, U = upd T3 (768 + x (k + 3)) (T3 (768 + x (k + 3)) + 1) := ⟨_, rfl⟩
      have t4 : Tab x (k + 4) T4 := by rw [e4]; exact t3.step3 y3
      have g3 := t3.1 (768 + x (k + 3))
      have z3 : IntKind.i64.wrap (T3 (768 + x (k + 3)) + 1) = T3 (768 + x (k + 3)) + 1 := IntWalk.i64_in _ ⟨by omega, by omega⟩
      have HT4 := hide t4
      have HE1 := hide e1
      have HE2 := hide e2
      have HE3 := hide e3
      have HE4 := hide e4
      have d0 : wr.cell? ⟨tb, toff + k, none⟩ = some (.int .u8 (x k : Int)) := (hK.cell (a := ⟨tb, toff + k, none⟩) htR).trans (HC.out k (by omega))
      have m0 := hR.cell (i := x k) (by omega)
      have HK0 := hide hK
      have HR0 := hide hR
      clear hQ hc hx hT t1 t2 t3 t4 e1 e2 e3 e4 hK hR hr hd
      go_wp2_with (first
        | (refine wpList_put rfl (.tmp 23) (.tmp 21) rfl rfl R 32 1024 (x k) T (T (x k) + 1) T1 HE1.out rfl rfl HR0.out (by omega) ?_; intro w1 r1 k1; have HR1 := hide r1; have HK1 := hide (HK0.out.trans k1); have d1 : w1.cell? ⟨tb, toff + (k + 1), none⟩ = some (.int .u8 (x (k + 1) : Int)) := (HK1.out.cell (a := ⟨tb, toff + (k + 1), none⟩) htR).trans (HC.out (k + 1) (by omega)); have m1 := r1.cell (i := 256 + x (k + 1)) (by omega); clear r1 k1)
        | (refine wpList_put rfl (.tmp 34) (.tmp 32) rfl rfl R 32 1024 (256 + x (k + 1)) T1 (T1 (256 + x (k + 1)) + 1) T2 HE2.out rfl rfl HR1.out (by omega) ?_; intro w2 r2 k2; have HR2 := hide r2; have HK2 := hide (HK1.out.trans k2); have d2 : w2.cell? ⟨tb, toff + (k + 2), none⟩ = some (.int .u8 (x (k + 2) : Int)) := (HK2.out.cell (a := ⟨tb, toff + (k + 2), none⟩) htR).trans (HC.out (k + 2) (by omega)); have m2 := r2.cell (i := 512 + x (k + 2)) (by omega); clear r2 k2)
        | (refine wpList_put rfl (.tmp 45) (.tmp 43) rfl rfl R 32 1024 (512 + x (k + 2)) T2 (T2 (512 + x (k + 2)) + 1) T3 HE3.out rfl rfl HR2.out (by omega) ?_; intro w3 r3 k3; have HR3 := hide r3; have HK3 := hide (HK2.out.trans k3); have d3 : w3.cell? ⟨tb, toff + (k + 3), none⟩ = some (.int .u8 (x (k + 3) : Int)) := (HK3.out.cell (a := ⟨tb, toff + (k + 3), none⟩) htR).trans (HC.out (k + 3) (by omega)); have m3 := r3.cell (i := 768 + x (k + 3)) (by omega); clear r3 k3)
        | (refine wpList_put rfl (.tmp 56) (.tmp 54) rfl rfl R 32 1024 (768 + x (k + 3)) T3 (T3 (768 + x (k + 3)) + 1) T4 HE4.out rfl rfl HR3.out (by omega) ?_; intro w4 r4 k4; have HR4 := hide r4; have HK4 := hide (HK3.out.trans k4); clear r4 k4))
      go_roundw
      case rel => exact ⟨k + 4, T4, by omega, by rw [Int.natCast_add]; rfl, HT4.out, HR4.out, HK4.out⟩
      case measure => simp [intOf]; omega
    · have hd0 : decide ((k : Int) + 4 ≤ (n : Int)) = false := by simp; omega
      have HQ := hide (hQ (i' := k) (T := T) (w' := wr))
      have HE := hide (show k ≤ n ∧ Tab x k T ∧ Ints wr R 32 1024 T ∧ Kept R w wr from ⟨hk, hT, hR, hK⟩)
      clear hQ hd hT hR hK hr
      go_wp2
      exact HQ.out _ _ _ _ _ _ _ _ _ _ _ _ _ _ _ _ _ _ _ _ _ _ _ _ _ _ _ _ _ _ _ _ _ _ _ _ _ _ _ _ _ _ _ _ _ _ _ _ _ _ HE.out

end Go.Proofs.Ybulkbfko
