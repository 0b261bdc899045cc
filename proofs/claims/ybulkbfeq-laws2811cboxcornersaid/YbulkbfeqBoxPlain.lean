/-
  THE BUNDLE OF FACTS THAT BoxCorner's WALK WANTS, at whatever dimension D: pivots, the inverse, the multipliers. (No Go in sight.)
-/
import Derived.Test.YbulkbfeqBoxElim
import Derived.Test.YbulkbfeqCore
namespace Go.Proofs.Ybulkbfeq
open Ieee Fl
attribute [local go_sem] run_store_float
set_option linter.unusedVariables false

/-! ### Two places of n + 1 in n seats -/
theorem php (n : Nat) : ∀ f : Nat → Nat, (∀ r, r < n + 1 → f r < n) → ∃ r s, r < s ∧ s < n + 1 ∧ f r = f s := by
  induction n with
  | zero => intro f h; have := h 0 (by omega); omega
  | succ n ih =>
    intro f h
    by_cases hv : ∃ r, r < n + 1 ∧ f r = f (n + 1)
    · obtain ⟨r, h1, h2⟩ := hv
      exact ⟨r, n + 1, h1, by omega, h2⟩
    · have hne : ∀ r, r < n + 1 → f r ≠ f (n + 1) := fun r hr e => hv ⟨r, hr, e⟩
      have hl := h (n + 1) (by omega)
      obtain ⟨r, s, h1, h2, h3⟩ := ih (fun r => if f r > f (n + 1) then f r - 1 else f r) (fun r hr => by
        have a := h r (by omega)
        have b := hne r hr
        show (if f r > f (n + 1) then f r - 1 else f r) < n
        split <;> omega)
      refine ⟨r, s, h1, by omega, ?_⟩
      have a := hne r (by omega)
      have b := hne s h2
      have h3' : (if f r > f (n + 1) then f r - 1 else f r) = (if f s > f (n + 1) then f s - 1 else f s) := h3
      split at h3' <;> split at h3' <;> omega
theorem php_miss (D : Nat) (f : Nat → Nat) (c : Nat) (hc : c < D) (h : ∀ r, r < D → f r < D) (hm : ∀ r, r < D → f r ≠ c) : ∃ r s, r < s ∧ s < D ∧ f r = f s := by
  obtain ⟨n, rfl⟩ : ∃ n, D = n + 1 := ⟨D - 1, by omega⟩
  obtain ⟨r, s, h1, h2, h3⟩ := php n (fun r => if f r > c then f r - 1 else f r) (fun r hr => by
    have a := h r hr
    have b := hm r hr
    show (if f r > c then f r - 1 else f r) < n
    split <;> omega)
  refine ⟨r, s, h1, h2, ?_⟩
  have a := hm r (by omega)
  have b := hm s h2
  have h3' : (if f r > c then f r - 1 else f r) = (if f s > c then f s - 1 else f s) := h3
  split at h3' <;> split at h3' <;> omega
theorem surj_of_inj (D : Nat) (f : Nat → Nat) (h : ∀ r, r < D → f r < D) (hi : ∀ r, r < D → ∀ s, s < D → f r = f s → r = s) (c : Nat) (hc : c < D) : ∃ r, r < D ∧ f r = c := by
  by_cases hm : ∃ r, r < D ∧ f r = c
  · exact hm
  · obtain ⟨r, s, h1, h2, h3⟩ := php_miss D f c hc h (fun r hr e => hm ⟨r, hr, e⟩)
    have := hi r (by omega) s h2 h3
    omega

def Dup (D : Nat) (C : Nat → Nat) : Prop := ∃ r s, r < s ∧ s < D ∧ ax C r = ax C s

section
variable {D : Nat} {C : Nat → Nat}
theorem inv_at (hC : ∀ r, r < D → C r < 2 * D) (c : Nat) (hc : c ≤ D) (hs : ∀ c', c' < c → sing D c' (colsF D (fillB D C D) c') = false) : ∃ o, Inv D c C (colsF D (fillB D C D) c) o := by
  induction c with
  | zero => exact ⟨_, inv_start D C hC⟩
  | succ c ih =>
    obtain ⟨o, h⟩ := ih (by omega) (fun c' hc' => hs c' (by omega))
    by_cases hr : ∃ r, c ≤ r ∧ r < D ∧ ax C (o r) = c
    · exact (h.step (by omega) hC hr).2.2
    · have := h.sing_of_none (by omega) hC (fun r h1 h2 h3 => hr ⟨r, h1, h2, h3⟩)
      rw [hs c (by omega)] at this
      cases this
theorem row_of (hC : ∀ r, r < D → C r < 2 * D) (c : Nat) (hc : c < D) (hs : ∀ c', c' ≤ c → sing D c' (colsF D (fillB D C D) c') = false) : okCol D c (colsF D (fillB D C D) c) := by
  obtain ⟨o, h⟩ := inv_at hC c (by omega) (fun c' hc' => hs c' (by omega))
  by_cases hr : ∃ r, c ≤ r ∧ r < D ∧ ax C (o r) = c
  · exact (h.step hc hC hr).2.1
  · have := h.sing_of_none hc hC (fun r h1 h2 h3 => hr ⟨r, h1, h2, h3⟩)
    rw [hs c (by omega)] at this
    cases this

/-- All columns have a pivot: every axis is met just once. -/
theorem full (hC : ∀ r, r < D → C r < 2 * D) (hs : ∀ c, c < D → sing D c (colsF D (fillB D C D) c) = false) :
    ∃ o, Inv D D C (colsF D (fillB D C D) D) o ∧ ∀ b, b < D → ∀ a, a < D → (ax C b = a ↔ b = o a) := by
  obtain ⟨o, h⟩ := inv_at hC D (Nat.le_refl _) hs
  refine ⟨o, h, fun b hb a ha => ?_⟩
  obtain ⟨r, hr, e⟩ := surj_of_inj D o h.lt h.inj b hb
  constructor
  · intro hab
    have := (h.done r hr).1
    rw [e] at this
    rw [← e]; congr 1; omega
  · intro hab
    rw [hab]; exact (h.done a ha).1
theorem no_dup (hC : ∀ r, r < D → C r < 2 * D) (hs : ∀ c, c < D → sing D c (colsF D (fillB D C D) c) = false) : ¬ Dup D C := by
  obtain ⟨o, h, hab⟩ := full hC hs
  rintro ⟨r, s, h1, h2, h3⟩
  have hr := hC r (by omega)
  have a1 := (hab r (by omega) (ax C r) (by unfold ax; omega)).1 rfl
  have a2 := (hab s h2 (ax C r) (by unfold ax; omega)).1 h3.symm
  omega
/-- A column without a pivot: an axis is missed, so another is met twice. -/
theorem dup_of_sing (hC : ∀ r, r < D → C r < 2 * D) (c : Nat) (hc : c < D) (hs : ∀ c', c' < c → sing D c' (colsF D (fillB D C D) c') = false) (h1 : sing D c (colsF D (fillB D C D) c) = true) : Dup D C := by
  obtain ⟨o, h⟩ := inv_at hC c (by omega) hs
  have hn : ∀ r, r < D → ax C (o r) ≠ c := by
    intro r hr ha
    by_cases hrc : c ≤ r
    · have := (h.step hc hC ⟨r, hrc, hr, ha⟩).1
      rw [h1] at this; cases this
    · have := (h.done r (by omega)).1
      omega
  obtain ⟨r, s, a1, a2, a3⟩ := php_miss D (fun r => ax C (o r)) c hc (fun r hr => by have := hC _ (h.lt r hr); show C (o r) / 2 < D; omega) hn
  have hne : o r ≠ o s := fun e => by have := h.inj r (by omega) s a2 e; omega
  have b1 := h.lt r (by omega)
  have b2 := h.lt s a2
  rcases Nat.lt_or_ge (o r) (o s) with hlt | hge
  · exact ⟨o r, o s, hlt, b2, a3⟩
  · exact ⟨o s, o r, by omega, b1, a3.symm⟩
theorem first_sing (hC : ∀ r, r < D → C r < 2 * D) : ∀ k, k ≤ D → (∀ c, c < k → sing D c (colsF D (fillB D C D) c) = false) ∨ ∃ c, c < k ∧ (∀ c', c' < c → sing D c' (colsF D (fillB D C D) c') = false) ∧ sing D c (colsF D (fillB D C D) c) = true := by
  intro k
  induction k with
  | zero => intro _; left; intro c hc; omega
  | succ k ih =>
    intro hk
    rcases ih (by omega) with h | ⟨c, h1, h2, h3⟩
    · cases hs : sing D k (colsF D (fillB D C D) k) with
      | true => right; exact ⟨k, by omega, h, hs⟩
      | false =>
        left; intro c hc
        rcases Nat.lt_succ_iff_lt_or_eq.1 hc with h' | h'
        · exact h c h'
        · rw [h']; exact hs
    · right; exact ⟨c, by omega, h2, h3⟩
theorem sing_of_dup (hC : ∀ r, r < D → C r < 2 * D) (hd : Dup D C) : ∃ c, c < D ∧ sing D c (colsF D (fillB D C D) c) = true := by
  rcases first_sing hC D (Nat.le_refl _) with h | ⟨c, h1, _, h3⟩
  · exact absurd hd (no_dup hC h)
  · exact ⟨c, h1, h3⟩
theorem none_of_nodup (hC : ∀ r, r < D → C r < 2 * D) (hd : ¬ Dup D C) : ∀ c, c < D → sing D c (colsF D (fillB D C D) c) = false := by
  rcases first_sing hC D (Nat.le_refl _) with h | ⟨c, h1, h2, h3⟩
  · exact h
  · exact absurd (dup_of_sing hC c h1 h2 h3) hd

/-- The inverse, entry by entry. -/
def invB (D : Nat) (C : Nat → Nat) : Nat → Nat := invJ D D (colsF D (fillB D C D) D) (fun _ => 0)
theorem invB_at (hC : ∀ r, r < D → C r < 2 * D) (hs : ∀ c, c < D → sing D c (colsF D (fillB D C D) c) = false) (a b : Nat) (ha : a < D) (hb : b < D) :
    (ax C b = a → invB D C (a * D + b) = sg C b) ∧ (ax C b ≠ a → isZ (invB D C (a * D + b))) := by
  obtain ⟨o, h, hab⟩ := full hC hs
  have hd : (a * D + b) / D = a := by
    rw [Nat.mul_comm, Nat.mul_add_div (by omega), Nat.div_eq_of_lt hb, Nat.add_zero]
  have hm : (a * D + b) % D = b := by
    rw [Nat.mul_comm, Nat.mul_add_mod, Nat.mod_eq_of_lt hb]
  have e : invB D C (a * D + b) = colsF D (fillB D C D) D (a * 2 * D + (D + b)) := by
    unfold invB invJ
    rw [hd, hm, if_pos ha, Nat.add_assoc]
  rw [e]
  have hdone := (h.done a ha).2
  have hoa := h.lt a ha
  have hc := hC _ hoa
  constructor
  · intro hx
    have := (hab b hb a ha).1 hx
    rw [this]; exact hdone.2.1
  · intro hx
    refine hdone.2.2 _ (by omega) (by unfold ax; omega) (fun h' => hx ((hab b hb a ha).2 (by omega)))
end

/-! ### The multipliers -/
/-- A word that stands for a whole number of at most 2^32. -/
def Whole (x : Nat) : Prop := IsNum x ∧ ∃ n : Int, val x = (n : Rat) ∧ -4294967296 ≤ n ∧ n ≤ 4294967296
theorem z_whole {x : Nat} (h : isZ x) : IsNum x ∧ val x = 0 := by
  rcases h with rfl | rfl
  · exact zero_ok
  · have h : double.read 9223372036854775808 = .number true 0 (-1074) := by decide +kernel
    exact ⟨⟨_, _, _, h⟩, by unfold val; rw [h, V_num]; unfold mg; grind⟩
theorem m1_ok : IsNum M1 ∧ val M1 = -1 := by
  have h : double.read M1 = .number true 4503599627370496 (-52) := by decide +kernel
  exact ⟨⟨_, _, _, h⟩, by unfold val; rw [h, V_num]; unfold mg; rw [pw52]; decide +kernel⟩
theorem u_whole {x : Nat} (h : isU x) : IsNum x ∧ ∃ n : Int, val x = (n : Rat) ∧ (n = 1 ∨ n = -1) := by
  rcases h with rfl | rfl
  · exact ⟨one_ok.1, 1, one_ok.2, .inl rfl⟩
  · exact ⟨m1_ok.1, -1, m1_ok.2, .inr rfl⟩
theorem bd_int (n : Int) (h1 : -8589934592 ≤ n) (h2 : n ≤ 8589934592) : bd (n : Rat) (pw 60) := by
  have e : pw 60 = ((1152921504606846976 : Int) : Rat) := by unfold pw; decide +kernel
  rw [e]
  unfold bd
  rw [← Rat.intCast_neg]
  exact ⟨Rat.intCast_le_intCast.2 (by omega), Rat.intCast_le_intCast.2 (by omega)⟩
theorem mul_int {x y : Nat} {a b : Int} (hx : IsNum x) (hy : IsNum y) (ex : val x = (a : Rat)) (ey : val y = (b : Rat)) (h1 : -8589934592 ≤ a * b) (h2 : a * b ≤ 8589934592) :
    (double.mul x y).isSome = true ∧ IsNum (fmul x y) ∧ val (fmul x y) = ((a * b : Int) : Rat) := by
  have e : val x * val y = ((a * b : Int) : Rat) := by rw [ex, ey, Rat.intCast_mul]
  obtain ⟨r, hr, n, _, c⟩ := mul_val x y hx hy (pw 60) (by rw [e]; exact bd_int _ h1 h2) (pw_mono (by omega)) (pw_mono (by omega))
  have : fmul x y = r := by unfold fmul; rw [hr]; rfl
  rw [this, hr]
  exact ⟨rfl, n, c _ e (by omega) (by omega)⟩
theorem add_int {x y : Nat} {a b : Int} (hx : IsNum x) (hy : IsNum y) (ex : val x = (a : Rat)) (ey : val y = (b : Rat)) (h1 : -8589934592 ≤ a + b) (h2 : a + b ≤ 8589934592) :
    (double.add x y).isSome = true ∧ IsNum (fadd x y) ∧ val (fadd x y) = ((a + b : Int) : Rat) := by
  have e : val x + val y = ((a + b : Int) : Rat) := by rw [ex, ey, Rat.intCast_add]
  obtain ⟨r, hr, n, _, c⟩ := add_val x y hx hy (pw 60) (by rw [e]; exact bd_int _ h1 h2) (pw_mono (by omega)) (pw_mono (by omega))
  have : fadd x y = r := by unfold fadd; rw [hr]; rfl
  rw [this, hr]
  exact ⟨rfl, n, c _ e (by omega) (by omega)⟩

theorem sum_box {D : Nat} {C W : Nat → Nat} (hC : ∀ r, r < D → C r < 2 * D) (hs : ∀ c, c < D → sing D c (colsF D (fillB D C D) c) = false) (hW : ∀ i, i < D → Whole (W i)) (j : Nat) (hj : j < D) :
    okSum D j (invB D C) W ∧ IsNum (sumN D j (invB D C) W D) ∧ (double.mul (sg C j) (W (ax C j))).isSome = true ∧ IsNum (fmul (sg C j) (W (ax C j))) ∧ val (sumN D j (invB D C) W D) = val (fmul (sg C j) (W (ax C j))) := by
  have hcj := hC j hj
  have hax : ax C j < D := by unfold ax; omega
  obtain ⟨nu, u, eu, hu⟩ := u_whole (sg_u C j)
  obtain ⟨nw, v, ew, v1, v2⟩ := hW _ hax
  have huv : -4294967296 ≤ u * v ∧ u * v ≤ 4294967296 := by rcases hu with rfl | rfl <;> omega
  obtain ⟨p1, p2, p3⟩ := mul_int nu nw eu ew (by omega) (by omega)
  -- the terms
  have term : ∀ i, i < D → (double.mul (invB D C (i * D + j)) (W i)).isSome = true ∧ IsNum (fmul (invB D C (i * D + j)) (W i)) ∧ val (fmul (invB D C (i * D + j)) (W i)) = ((if i = ax C j then u * v else 0 : Int) : Rat) := by
    intro i hi
    obtain ⟨g1, g2⟩ := invB_at hC hs i j hi hj
    by_cases h : i = ax C j
    · rw [g1 h.symm, if_pos h, h]
      exact ⟨p1, p2, p3⟩
    · rw [if_neg h]
      obtain ⟨nz, ez⟩ := z_whole (g2 (fun h' => h h'.symm))
      obtain ⟨nwi, vi, ewi, _⟩ := hW i hi
      have := mul_int (a := 0) (b := vi) nz nwi ez ewi (by rw [Int.zero_mul]; omega) (by rw [Int.zero_mul]; omega)
      rw [Int.zero_mul] at this
      exact this
  have sums : ∀ k, k ≤ D → IsNum (sumN D j (invB D C) W k) ∧ val (sumN D j (invB D C) W k) = ((if ax C j < k then u * v else 0 : Int) : Rat) ∧ (∀ i, i < k → (double.mul (invB D C (i * D + j)) (W i)).isSome = true ∧ (double.add (sumN D j (invB D C) W i) (fmul (invB D C (i * D + j)) (W i))).isSome = true) := by
    intro k
    induction k with
    | zero =>
      intro _
      refine ⟨zero_ok.1, ?_, fun i hi => by omega⟩
      rw [if_neg (by omega)]; exact zero_ok.2
    | succ k ih =>
      intro hk
      obtain ⟨s1, s2, s3⟩ := ih (by omega)
      obtain ⟨t1, t2, t3⟩ := term k (by omega)
      have hsum : (if ax C j < k then u * v else 0) + (if k = ax C j then u * v else 0) = (if ax C j < k + 1 then u * v else 0) := by
        by_cases h1 : ax C j < k
        · rw [if_pos h1, if_neg (by omega), if_pos (by omega)]; omega
        · rw [if_neg h1]
          by_cases h2 : k = ax C j
          · rw [if_pos h2, if_pos (by omega)]; omega
          · rw [if_neg h2, if_neg (by omega)]; rfl
      obtain ⟨a1, a2, a3⟩ := add_int s1 t2 s2 t3 (by rw [hsum]; split <;> omega) (by rw [hsum]; split <;> omega)
      rw [hsum] at a3
      refine ⟨a2, a3, fun i hi => ?_⟩
      rcases Nat.lt_succ_iff_lt_or_eq.1 hi with h | h
      · exact s3 i h
      · rw [h]; exact ⟨t1, a1⟩
  obtain ⟨s1, s2, s3⟩ := sums D (Nat.le_refl _)
  rw [if_pos hax] at s2
  exact ⟨s3, s1, p1, p2, by rw [s2, p3]⟩

/-- WHAT THE WALK WANTS. -/
structure BoxPlain (D : Nat) (C W : Nat → Nat) : Prop where
  hv : ∀ c, c < D → (∀ c', c' ≤ c → sing D c' (colsF D (fillB D C D) c') = false) → okCol D c (colsF D (fillB D C D) c)
  hv2 : (∀ c, c < D → sing D c (colsF D (fillB D C D) c) = false) → ∀ j, j < D → (∀ i, i < j → flt (sumN D i (invB D C) W D) 0 = false) → okSum D j (invB D C) W
  dup : Dup D C → ∃ c, c < D ∧ sing D c (colsF D (fillB D C D) c) = true
  nodup : ¬ Dup D C → (∀ c, c < D → sing D c (colsF D (fillB D C D) c) = false) ∧ (∀ a, a < D → ∀ b, b < D → fne (invB D C (a * D + b)) (if ax C b = a then sg C b else 0) = false) ∧
    ∀ j, j < D → (double.mul (sg C j) (W (ax C j))).isSome = true ∧ flt (fmul (sg C j) (W (ax C j))) 0 = flt (sumN D j (invB D C) W D) 0 ∧ fne (sumN D j (invB D C) W D) (fmul (sg C j) (W (ax C j))) = false
theorem box_plain (D : Nat) (C W : Nat → Nat) (hC : ∀ r, r < D → C r < 2 * D) (hW : ∀ i, i < D → Whole (W i)) : BoxPlain D C W := by
  refine ⟨fun c hc hs => row_of hC c hc hs, fun hs j hj _ => (sum_box hC hs hW j hj).1, sing_of_dup hC, fun hd => ?_⟩
  have hs := none_of_nodup hC hd
  refine ⟨hs, ?_, ?_⟩
  · intro a ha b hb
    obtain ⟨g1, g2⟩ := invB_at hC hs a b ha hb
    by_cases h : ax C b = a
    · rw [if_pos h, g1 h]; exact ne_self (sg_u C b)
    · rw [if_neg h]; exact ne_z (g2 h)
  · intro j hj
    obtain ⟨_, n1, m1, n2, e⟩ := sum_box hC hs hW j hj
    refine ⟨m1, ?_, ?_⟩
    · rw [Bool.eq_iff_iff, flt_iff _ _ n2 zero_ok.1, flt_iff _ _ n1 zero_ok.1, e]
    · rw [fne_false _ _ n1 n2]; exact e

end Go.Proofs.Ybulkbfeq
