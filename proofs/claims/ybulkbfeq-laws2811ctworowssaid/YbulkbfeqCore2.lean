/-
  TWO ROWS OF SMALL INTEGERS, ELIMINATED IN float64, CONTINUED: column 1; the law's check. (No Go in sight.)
-/
import Derived.Test.YbulkbfeqCore
namespace Go.Proofs.Ybulkbfeq.Fl
open Ieee
attribute [local go_sem] run_store_float

/-- The determinant is not nought: t is no small number. -/
theorem t_big {R0 R1 : Nat → Nat} (h0 : SmallRow R0) (h1 : SmallRow R1) (hf : 1 ≤ abs (val (R0 0))) (hd : 1 ≤ abs (val (R0 0) * val (R1 1) - val (R1 0) * val (R0 1))) :
    12 / 100 ≤ abs (val (zF R0 R1 1)) ∧ abs (val (zF R0 R1 1)) ≤ 74 := by
  obtain ⟨_, _, _, bt⟩ := z_ok h0 h1 hf 1 (by omega)
  refine ⟨?_, (abs_le bt).2⟩
  have ht := t_det h0 h1 hf
  obtain ⟨_, b0, _⟩ := h0 0 (by omega)
  have ha := abs_le b0
  have hm := abs_mul (val (zF R0 R1 1)) (val (R0 0))
  have h8 : abs (val (zF R0 R1 1)) * abs (val (R0 0)) ≤ abs (val (zF R0 R1 1)) * 8 := Rat.mul_le_mul_of_nonneg_left ha.2 (abs_le bt).1
  have h9 : 99 / 100 ≤ abs (val (zF R0 R1 1) * val (R0 0)) := by
    generalize val (zF R0 R1 1) * val (R0 0) = a at ht
    generalize val (R0 0) * val (R1 1) - val (R1 0) * val (R0 1) = b at ht hd
    unfold abs bd at *
    grind
  rw [hm] at h9
  grind

section
variable {R0 R1 : Nat → Nat}

theorem y_ok (h0 : SmallRow R0) (h1 : SmallRow R1) (hf : 1 ≤ abs (val (R0 0))) (hd : 1 ≤ abs (val (R0 0) * val (R1 1) - val (R1 0) * val (R0 1))) (j : Nat) (hj : j < 4) :
    (double.div (zF R0 R1 j) (zF R0 R1 1)).isSome = true ∧ IsNum (yF R0 R1 j) ∧ bd (val (yF R0 R1 j)) 1280 ∧ bd (val (yF R0 R1 j) * val (zF R0 R1 1) - val (zF R0 R1 j)) (189440 / 4503599627370496) := by
  obtain ⟨_, nt, _, _⟩ := z_ok h0 h1 hf 1 (by omega)
  obtain ⟨_, nz, _, bz⟩ := z_ok h0 h1 hf j hj
  obtain ⟨t1, t2⟩ := t_big h0 h1 hf hd
  have hne : val (zF R0 R1 1) ≠ 0 := by intro h; rw [h] at t1; unfold abs at t1; simp at t1; grind
  obtain ⟨d1, d2, d3, d4⟩ := fdiv_ok (zF R0 R1 j) (zF R0 R1 1) nz nt hne 640 (bd_mono bz (by grind)) (by grind) (by grind)
  exact ⟨d1, d2, bd_mono d3 (by grind), bd_mono d4 (by grind)⟩

theorem x_ok (h0 : SmallRow R0) (h1 : SmallRow R1) (hf : 1 ≤ abs (val (R0 0))) (hd : 1 ≤ abs (val (R0 0) * val (R1 1) - val (R1 0) * val (R0 1))) (j : Nat) (hj : j < 4) :
    (fne (vF R0 1) 0 = true → (double.mul (vF R0 1) (yF R0 R1 j)).isSome = true ∧ (double.sub (vF R0 j) (fmul (vF R0 1) (yF R0 R1 j))).isSome = true) ∧
    IsNum (xF R0 R1 j) ∧ bd (val (xF R0 R1 j) - (val (vF R0 j) - val (vF R0 1) * val (yF R0 R1 j))) (20530 / 4503599627370496) ∧ bd (val (xF R0 R1 j)) 10280 := by
  obtain ⟨_, nu, _, bu⟩ := v_ok h0 hf 1 (by omega)
  obtain ⟨_, nv, _, bv⟩ := v_ok h0 hf j hj
  obtain ⟨_, ny, by1, _⟩ := y_ok h0 h1 hf hd j hj
  obtain ⟨m1, m2, m3, _⟩ := fmul_ok (vF R0 1) (yF R0 R1 j) nu ny 10256 (bd_mono (bd_mul bu by1) (by grind)) (by grind) (by grind)
  have bm0 := bd_mul bu by1
  have bm : bd (val (fmul (vF R0 1) (yF R0 R1 j))) 10257 := by
    unfold bd at *; grind
  obtain ⟨s1, s2, s3, _⟩ := fsub_ok (vF R0 j) (fmul (vF R0 1) (yF R0 R1 j)) nv m2 10266 (bd_mono (bd_sub bv bm) (by grind)) (by grind) (by grind)
  refine ⟨fun _ => ⟨m1, s1⟩, ?_⟩
  unfold xF
  by_cases hg : fne (vF R0 1) 0 = true
  · rw [if_pos hg]
    refine ⟨s2, ?_, ?_⟩
    · unfold bd at *; grind
    · unfold bd at *; grind
  · rw [if_neg hg]
    have hz : val (vF R0 1) = 0 := by
      have := (fne_false (vF R0 1) 0 nu zero_ok.1).1 (by simpa using hg)
      rw [zero_ok.2] at this; exact this
    rw [hz]
    refine ⟨nv, ?_, ?_⟩
    · unfold bd; grind
    · unfold bd at *; grind

/-- The pivot's row times the inverse. -/
theorem chk_piv (h0 : SmallRow R0) (h1 : SmallRow R1) (hf : 1 ≤ abs (val (R0 0))) (hd : 1 ≤ abs (val (R0 0) * val (R1 1) - val (R1 0) * val (R0 1))) (j : Nat) (hj : j < 4) :
    bd (val (R0 0) * val (xF R0 R1 j) + val (R0 1) * val (yF R0 R1 j) - val (R0 j)) (600000 / 4503599627370496) := by
  obtain ⟨_, _, e1, _⟩ := v_ok h0 hf 1 (by omega)
  obtain ⟨_, _, e2, _⟩ := v_ok h0 hf j hj
  obtain ⟨_, _, by1, _⟩ := y_ok h0 h1 hf hd j hj
  obtain ⟨_, _, ex, _⟩ := x_ok h0 h1 hf hd j hj
  obtain ⟨_, b0, _⟩ := h0 0 (by omega)
  have g1 := bd_mul b0 ex
  have g2 := bd_mul by1 e1
  have g3 := bd_add (bd_sub g1 g2) e2
  have key : val (R0 0) * (val (xF R0 R1 j) - (val (vF R0 j) - val (vF R0 1) * val (yF R0 R1 j))) - val (yF R0 R1 j) * (val (vF R0 1) * val (R0 0) - val (R0 1)) + (val (vF R0 j) * val (R0 0) - val (R0 j)) = val (R0 0) * val (xF R0 R1 j) + val (R0 1) * val (yF R0 R1 j) - val (R0 j) := by grind
  rw [key] at g3
  exact bd_mono g3 (by grind)

/-- The other row times the inverse. -/
theorem chk_oth (h0 : SmallRow R0) (h1 : SmallRow R1) (hf : 1 ≤ abs (val (R0 0))) (hd : 1 ≤ abs (val (R0 0) * val (R1 1) - val (R1 0) * val (R0 1))) (j : Nat) (hj : j < 4) :
    bd (val (R1 0) * val (xF R0 R1 j) + val (R1 1) * val (yF R0 R1 j) - val (R1 j)) (600000 / 4503599627370496) := by
  obtain ⟨_, _, e1, _⟩ := z_ok h0 h1 hf 1 (by omega)
  obtain ⟨_, _, e2, _⟩ := z_ok h0 h1 hf j hj
  obtain ⟨_, _, by1, ey⟩ := y_ok h0 h1 hf hd j hj
  obtain ⟨_, _, ex, _⟩ := x_ok h0 h1 hf hd j hj
  obtain ⟨_, b0, _⟩ := h1 0 (by omega)
  have g1 := bd_mul b0 ex
  have g2 := bd_mul by1 e1
  have g3 := bd_add (bd_add (bd_sub g1 g2) ey) e2
  have key : val (R1 0) * (val (xF R0 R1 j) - (val (vF R0 j) - val (vF R0 1) * val (yF R0 R1 j))) - val (yF R0 R1 j) * (val (zF R0 R1 1) - (val (R1 1) - val (R1 0) * val (vF R0 1))) + (val (yF R0 R1 j) * val (zF R0 R1 1) - val (zF R0 R1 j)) + (val (zF R0 R1 j) - (val (R1 j) - val (R1 0) * val (vF R0 j))) = val (R1 0) * val (xF R0 R1 j) + val (R1 1) * val (yF R0 R1 j) - val (R1 j) := by grind
  rw [key] at g3
  exact bd_mono g3 (by grind)
end

/-- The law's own reckoning of one entry: a b words of at most 8 and 8, x, y at most 10280 and 1280; the exact sum lies near c, 0 or 1. -/
theorem chk_word {a b x y : Nat} {c : Rat} (na : IsNum a) (nb : IsNum b) (nx : IsNum x) (ny : IsNum y) (ba : bd (val a) 8) (bb : bd (val b) 8) (bx : bd (val x) 10280) (by1 : bd (val y) 1280)
    (h : bd (val a * val x + val b * val y - c) (600000 / 4503599627370496)) :
    (double.mul a x).isSome = true ∧ (double.mul b y).isSome = true ∧ (double.add (fmul a x) (fmul b y)).isSome = true ∧
    (c = 1 → (double.sub (fadd (fmul a x) (fmul b y)) 4607182418800017408).isSome = true ∧ flt (fabs (fsub (fadd (fmul a x) (fmul b y)) 4607182418800017408)) 4472406533629990549 = true) ∧
    (c = 0 → flt (fabs (fadd (fmul a x) (fmul b y))) 4472406533629990549 = true) := by
  obtain ⟨p1, p2, p3, _⟩ := fmul_ok a x na nx 82240 (bd_mono (bd_mul ba bx) (by grind)) (by grind) (by grind)
  obtain ⟨q1, q2, q3, _⟩ := fmul_ok b y nb ny 10240 (bd_mono (bd_mul bb by1) (by grind)) (by grind) (by grind)
  have bp : bd (val (fmul a x)) 82241 := by have := bd_mul ba bx; unfold bd at *; grind
  have bq : bd (val (fmul b y)) 10241 := by have := bd_mul bb by1; unfold bd at *; grind
  obtain ⟨s1, s2, s3, _⟩ := fadd_ok (fmul a x) (fmul b y) p2 q2 92482 (bd_mono (bd_add bp bq) (by grind)) (by grind) (by grind)
  have bs : bd (val (fadd (fmul a x) (fmul b y))) 92483 := by have := bd_add bp bq; unfold bd at *; grind
  refine ⟨p1, q1, s1, ?_, ?_⟩
  · intro hc
    obtain ⟨o1, o2⟩ := one_ok
    obtain ⟨d1, d2, d3, _⟩ := fsub_ok (fadd (fmul a x) (fmul b y)) 4607182418800017408 s2 o1 92484 (bd_mono (bd_sub bs (show bd (val 4607182418800017408) 1 by rw [o2]; unfold bd; grind)) (by grind)) (by grind) (by grind)
    refine ⟨d1, ?_⟩
    obtain ⟨a1, a2⟩ := fabs_ok _ d2
    rw [flt_iff _ _ a1 c9_ok.1, a2]
    have hc9 := c9_ok.2
    have : bd (val (fsub (fadd (fmul a x) (fmul b y)) 4607182418800017408)) (4000000 / 4503599627370496) := by
      rw [o2] at d3
      rw [hc] at h
      unfold bd at *; grind
    have := (abs_le this).2
    grind
  · intro hc
    obtain ⟨a1, a2⟩ := fabs_ok _ s2
    rw [flt_iff _ _ a1 c9_ok.1, a2]
    have hc9 := c9_ok.2
    have : bd (val (fadd (fmul a x) (fmul b y))) (4000000 / 4503599627370496) := by
      rw [hc] at h
      unfold bd at *; grind
    have := (abs_le this).2
    grind

end Go.Proofs.Ybulkbfeq.Fl
