/-
  TWO ROWS OF SMALL INTEGERS, ELIMINATED IN float64: how far each word lies from the exact number. (No Go in sight: the words' functions of YbulkbfeqPlain alone.)
-/
import Derived.Test.YbulkbfeqOps
import Derived.Test.YbulkbfeqFill
namespace Go.Proofs.Ybulkbfeq.Fl
open Ieee
attribute [local go_sem] run_store_float

theorem pw52 : pw (-52) = 1 / 4503599627370496 := by unfold pw; decide +kernel
theorem pw50 : pw (-50) = 4 / 4503599627370496 := by unfold pw; decide +kernel
theorem pw900 {B : Rat} (h : B ≤ 1048576) : B ≤ pw 900 := by
  have : pw 20 ≤ pw 900 := pw_mono (by omega)
  have e : pw 20 = 1048576 := by unfold pw; decide +kernel
  grind
theorem pw_900 {B : Rat} (h : 1 ≤ B) : pw (-900) ≤ B := by
  have : pw (-900) ≤ pw 0 := pw_mono (by omega)
  rw [pw_zero] at this
  grind

/-! ### The words' functions -/
theorem fadd_ok (x y : Nat) (hx : IsNum x) (hy : IsNum y) (B : Rat) (h : bd (val x + val y) B) (h1 : 1 ≤ B) (h2 : B ≤ 1048576) :
    (double.add x y).isSome = true ∧ IsNum (fadd x y) ∧ bd (val (fadd x y) - (val x + val y)) (B * (1 / 4503599627370496)) ∧ (∀ E : Int, val x + val y = (E : Rat) → -9007199254740992 < E → E < 9007199254740992 → val (fadd x y) = (E : Rat)) := by
  obtain ⟨r, hr, a, b, c⟩ := add_val x y hx hy B h (pw900 h2) (pw_900 h1)
  have : fadd x y = r := by unfold fadd; rw [hr]; rfl
  rw [this, hr, ← pw52]; exact ⟨rfl, a, b, c⟩
theorem fsub_ok (x y : Nat) (hx : IsNum x) (hy : IsNum y) (B : Rat) (h : bd (val x - val y) B) (h1 : 1 ≤ B) (h2 : B ≤ 1048576) :
    (double.sub x y).isSome = true ∧ IsNum (fsub x y) ∧ bd (val (fsub x y) - (val x - val y)) (B * (1 / 4503599627370496)) ∧ (∀ E : Int, val x - val y = (E : Rat) → -9007199254740992 < E → E < 9007199254740992 → val (fsub x y) = (E : Rat)) := by
  obtain ⟨r, hr, a, b, c⟩ := sub_val x y hx hy B h (pw900 h2) (pw_900 h1)
  have : fsub x y = r := by unfold fsub; rw [hr]; rfl
  rw [this, hr, ← pw52]; exact ⟨rfl, a, b, c⟩
theorem fmul_ok (x y : Nat) (hx : IsNum x) (hy : IsNum y) (B : Rat) (h : bd (val x * val y) B) (h1 : 1 ≤ B) (h2 : B ≤ 1048576) :
    (double.mul x y).isSome = true ∧ IsNum (fmul x y) ∧ bd (val (fmul x y) - val x * val y) (B * (1 / 4503599627370496)) ∧ (∀ E : Int, val x * val y = (E : Rat) → -9007199254740992 < E → E < 9007199254740992 → val (fmul x y) = (E : Rat)) := by
  obtain ⟨r, hr, a, b, c⟩ := mul_val x y hx hy B h (pw900 h2) (pw_900 h1)
  have : fmul x y = r := by unfold fmul; rw [hr]; rfl
  rw [this, hr, ← pw52]; exact ⟨rfl, a, b, c⟩
def abs (a : Rat) : Rat := if a < 0 then -a else a
theorem fdiv_ok (x y : Nat) (hx : IsNum x) (hy : IsNum y) (h0 : val y ≠ 0) (B : Rat) (h : bd (val x) (B * abs (val y))) (h1 : 1 ≤ B) (h2 : 2 * B ≤ 1048576) :
    (double.div x y).isSome = true ∧ IsNum (fdiv x y) ∧ bd (val (fdiv x y)) (2 * B) ∧ bd (val (fdiv x y) * val y - val x) (B * (4 / 4503599627370496) * abs (val y)) := by
  obtain ⟨r, hr, a, b, c⟩ := div_val x y hx hy h0 B h (pw900 h2) (pw_900 h1)
  have : fdiv x y = r := by unfold fdiv; rw [hr]; rfl
  rw [this, hr, ← pw50]; exact ⟨rfl, a, b, c⟩

theorem fabs_ok (x : Nat) (hx : IsNum x) : IsNum (fabs x) ∧ val (fabs x) = abs (val x) := by
  obtain ⟨s, m, p, hx⟩ := hx
  have hr : double.read (fabs x) = .number false m p := by
    unfold Format.read at hx ⊢
    simp only [f_binade, f_inf, f_sign, f_least] at hx ⊢
    have e1 : fabs x % 9223372036854775808 = x % 9223372036854775808 := by unfold fabs; omega
    have e2 : (fabs x / 9223372036854775808 % 2 == 1) = false := by unfold fabs; simp
    rw [e1, e2]
    split at hx
    · rename_i h; rw [if_pos h]; cases hx; rfl
    · rename_i h; rw [if_neg h]
      split at hx
      · rename_i h2; rw [if_pos h2]; cases hx; rfl
      · split at hx <;> cases hx
  refine ⟨⟨_, _, _, hr⟩, ?_⟩
  have e1 : val (fabs x) = mg m p := by unfold val; rw [hr]; rfl
  have e2 : val x = V (.number s m p) := by unfold val; rw [hx]
  have := mg_nonneg m p
  rw [e1, e2, V_num]
  unfold abs
  cases s <;> simp <;> grind

theorem flt_iff (x y : Nat) (hx : IsNum x) (hy : IsNum y) : flt x y = true ↔ val x < val y := by
  unfold flt; rw [beq_iff_eq]; exact (order_val x y hx hy).1
theorem fgt_iff (x y : Nat) (hx : IsNum x) (hy : IsNum y) : fgt x y = true ↔ val y < val x := by
  unfold fgt; rw [beq_iff_eq]; exact (order_val x y hx hy).2.2
theorem fne_iff (x y : Nat) (hx : IsNum x) (hy : IsNum y) : fne x y = true ↔ val x ≠ val y := by
  unfold fne; rw [bne_iff_ne, ne_eq, (order_val x y hx hy).2.1]
theorem flt_false (x y : Nat) (hx : IsNum x) (hy : IsNum y) : flt x y = false ↔ val y ≤ val x := by
  rw [← Bool.not_eq_true, flt_iff x y hx hy]; grind
theorem fne_false (x y : Nat) (hx : IsNum x) (hy : IsNum y) : fne x y = false ↔ val x = val y := by
  rw [← Bool.not_eq_true, fne_iff x y hx hy]; grind

/-! ### Constants; small whole numbers -/
theorem zero_ok : IsNum 0 ∧ val 0 = 0 := by
  have h : double.read 0 = .number false 0 (-1074) := by decide +kernel
  exact ⟨⟨_, _, _, h⟩, by unfold val; rw [h, V_num]; unfold mg; grind⟩
theorem one_ok : IsNum 4607182418800017408 ∧ val 4607182418800017408 = 1 := by
  have h : double.read 4607182418800017408 = .number false 4503599627370496 (-52) := by decide +kernel
  exact ⟨⟨_, _, _, h⟩, by unfold val; rw [h, V_num]; unfold mg; rw [pw52]; decide +kernel⟩
theorem c12_ok : IsNum 4427486594234968593 ∧ 4096 / 4503599627370496 ≤ val 4427486594234968593 ∧ val 4427486594234968593 ≤ 1 / 100 := by
  have h : double.read 4427486594234968593 = .number false 4951760157141521 (-92) := by decide +kernel
  have hv : val 4427486594234968593 = 4951760157141521 * pw (-92) := by unfold val; rw [h, V_num]; rfl
  have e : pw (-92) = 1 / 4951760157141521099596496896 := by unfold pw; decide +kernel
  rw [hv, e]
  exact ⟨⟨_, _, _, h⟩, by decide +kernel, by decide +kernel⟩
theorem c9_ok : IsNum 4472406533629990549 ∧ 4194304 / 4503599627370496 ≤ val 4472406533629990549 := by
  have h : double.read 4472406533629990549 = .number false 4835703278458517 (-82) := by decide +kernel
  have hv : val 4472406533629990549 = 4835703278458517 * pw (-82) := by unfold val; rw [h, V_num]; rfl
  have e : pw (-82) = 1 / 4835703278458516698824704 := by unfold pw; decide +kernel
  rw [hv, e]
  exact ⟨⟨_, _, _, h⟩, by decide +kernel⟩
theorem int_ok (n : Int) (h1 : -9007199254740992 < n) (h2 : n < 9007199254740992) : IsNum (floatOfInt .f64 n) ∧ val (floatOfInt .f64 n) = (n : Rat) := by
  have hw : floatOfInt .f64 n = double.write (.number (n < 0) n.natAbs 0) := rfl
  have hv : V (.number (n < 0) n.natAbs 0) = (n : Rat) := by
    rw [V_num]
    unfold mg
    rw [pw_zero]
    by_cases hn : n < 0
    · simp only [hn, decide_true, if_true]
      have : ((n.natAbs : Nat) : Int) = -n := by omega
      have h3 : (((n.natAbs : Nat) : Int) : Rat) = ((-n : Int) : Rat) := by rw [this]
      have h4 : ((n.natAbs : Nat) : Rat) = -(n : Rat) := by rw [← Rat.intCast_neg]; exact h3
      rw [h4]; grind
    · simp only [hn, decide_false, Bool.false_eq_true, if_false]
      have : ((n.natAbs : Nat) : Int) = n := by omega
      have h3 : (((n.natAbs : Nat) : Int) : Rat) = (n : Rat) := by rw [this]
      have h4 : ((n.natAbs : Nat) : Rat) = (n : Rat) := h3
      rw [h4]; grind
  have hb : bd (V (.number (n < 0) n.natAbs 0)) (pw 100) := by
    rw [hv]
    have e : pw 100 = ((1267650600228229401496703205376 : Int) : Rat) := by unfold pw; decide +kernel
    rw [e]
    unfold bd
    rw [← Rat.intCast_neg]
    exact ⟨Rat.intCast_le_intCast.2 (by omega), Rat.intCast_le_intCast.2 (by omega)⟩
  obtain ⟨w1, _, w3⟩ := write_bd _ _ _ (pw 100) hb (pw_mono (by omega)) (pw_mono (by omega))
  rw [hw]
  exact ⟨w1, w3 n hv h1 h2⟩

/-! ### The elimination of two rows of small whole numbers -/
/-- A row of four words, each a whole number of at most 8. -/
def SmallRow (R : Nat → Nat) : Prop := ∀ j, j < 4 → IsNum (R j) ∧ bd (val (R j)) 8 ∧ ∃ n : Int, val (R j) = (n : Rat)
def vF (R0 : Nat → Nat) (j : Nat) : Nat := fdiv (R0 j) (R0 0)
def zF (R0 R1 : Nat → Nat) (j : Nat) : Nat := if fne (R1 0) 0 = true then fsub (R1 j) (fmul (R1 0) (vF R0 j)) else R1 j
def yF (R0 R1 : Nat → Nat) (j : Nat) : Nat := fdiv (zF R0 R1 j) (zF R0 R1 1)
def xF (R0 R1 : Nat → Nat) (j : Nat) : Nat := if fne (vF R0 1) 0 = true then fsub (vF R0 j) (fmul (vF R0 1) (yF R0 R1 j)) else vF R0 j

theorem abs_le {a e : Rat} (h : bd a e) : 0 ≤ abs a ∧ abs a ≤ e := by unfold abs bd at *; split <;> grind
theorem bd_abs (a : Rat) : bd a (abs a) := by unfold abs bd; split <;> grind
theorem abs_mul (a b : Rat) : abs (a * b) = abs a * abs b := by
  unfold abs
  by_cases ha : a < 0
  · by_cases hb : b < 0
    · have : 0 < a * b := by have := Rat.mul_pos (show 0 < -a by grind) (show 0 < -b by grind); grind
      rw [if_pos ha, if_pos hb, if_neg (by grind)]; grind
    · by_cases hb0 : b = 0
      · subst hb0; rw [if_pos ha, if_neg hb, if_neg (by grind)]; grind
      · have : a * b < 0 := by have := Rat.mul_pos (show 0 < -a by grind) (show 0 < b by grind); grind
        rw [if_pos ha, if_neg hb, if_pos this]; grind
  · by_cases hb : b < 0
    · by_cases ha0 : a = 0
      · subst ha0; rw [if_neg ha, if_pos hb, if_neg (by grind)]; grind
      · have : a * b < 0 := by have := Rat.mul_pos (show 0 < a by grind) (show 0 < -b by grind); grind
        rw [if_neg ha, if_pos hb, if_pos this]; grind
    · have : 0 ≤ a * b := Rat.mul_nonneg (by grind) (by grind)
      rw [if_neg ha, if_neg hb, if_neg (by grind)]
/-- |a| |f| small and |f| at least 1: |a| small. -/
theorem bd_of_mul {a f c : Rat} (hf : 1 ≤ abs f) (h : bd (a * f) c) : bd a c := by
  have h2 := abs_le h
  rw [abs_mul] at h2
  have h3 := (abs_le (bd_abs a)).1
  have h4 := Rat.mul_le_mul_of_nonneg_left hf h3
  have := bd_abs a
  unfold bd at *
  grind

/-- Column 0, the pivot's row. -/
theorem v_ok {R0 : Nat → Nat} (h0 : SmallRow R0) (hf : 1 ≤ abs (val (R0 0))) (j : Nat) (hj : j < 4) :
    (double.div (R0 j) (R0 0)).isSome = true ∧ IsNum (vF R0 j) ∧ bd (val (vF R0 j) * val (R0 0) - val (R0 j)) (256 / 4503599627370496) ∧ bd (val (vF R0 j)) (801 / 100) := by
  obtain ⟨n0, b0, _⟩ := h0 0 (by omega)
  obtain ⟨nj, bj, _⟩ := h0 j hj
  have hne : val (R0 0) ≠ 0 := by intro h; rw [h] at hf; unfold abs at hf; simp at hf; grind
  have ha := abs_le b0
  obtain ⟨d1, d2, d3, d4⟩ := fdiv_ok (R0 j) (R0 0) nj n0 hne 8 (bd_mono bj (by grind)) (by grind) (by grind)
  have e1 : bd (val (vF R0 j) * val (R0 0) - val (R0 j)) (256 / 4503599627370496) := bd_mono d4 (by grind)
  refine ⟨d1, d2, e1, bd_of_mul hf ?_⟩
  have := bd_add e1 bj
  unfold bd at *
  grind

/-- Column 0, the other row. -/
theorem z_ok {R0 R1 : Nat → Nat} (h0 : SmallRow R0) (h1 : SmallRow R1) (hf : 1 ≤ abs (val (R0 0))) (j : Nat) (hj : j < 4) :
    (fne (R1 0) 0 = true → (double.mul (R1 0) (vF R0 j)).isSome = true ∧ (double.sub (R1 j) (fmul (R1 0) (vF R0 j))).isSome = true) ∧
    IsNum (zF R0 R1 j) ∧ bd (val (zF R0 R1 j) - (val (R1 j) - val (R1 0) * val (vF R0 j))) (140 / 4503599627370496) ∧ bd (val (zF R0 R1 j)) 74 := by
  obtain ⟨n0, b0, _⟩ := h1 0 (by omega)
  obtain ⟨nj, bj, _⟩ := h1 j hj
  obtain ⟨_, nv, _, bv⟩ := v_ok h0 hf j hj
  obtain ⟨m1, m2, m3, _⟩ := fmul_ok (R1 0) (vF R0 j) n0 nv 65 (bd_mono (bd_mul b0 bv) (by grind)) (by grind) (by grind)
  have bm : bd (val (fmul (R1 0) (vF R0 j))) 65 := by
    have := bd_mul b0 bv
    unfold bd at *; grind
  obtain ⟨s1, s2, s3, _⟩ := fsub_ok (R1 j) (fmul (R1 0) (vF R0 j)) nj m2 73 (bd_mono (bd_sub bj bm) (by grind)) (by grind) (by grind)
  refine ⟨fun _ => ⟨m1, s1⟩, ?_⟩
  unfold zF
  by_cases hg : fne (R1 0) 0 = true
  · rw [if_pos hg]
    refine ⟨s2, ?_, ?_⟩
    · unfold bd at *; grind
    · unfold bd at *; grind
  · rw [if_neg hg]
    have hz : val (R1 0) = 0 := by
      have := (fne_false (R1 0) 0 n0 zero_ok.1).1 (by simpa using hg)
      rw [zero_ok.2] at this; exact this
    rw [hz]
    refine ⟨nj, ?_, ?_⟩
    · unfold bd; grind
    · unfold bd at *; grind

/-- f t is the determinant, but for a little. -/
theorem t_det {R0 R1 : Nat → Nat} (h0 : SmallRow R0) (h1 : SmallRow R1) (hf : 1 ≤ abs (val (R0 0))) :
    bd (val (zF R0 R1 1) * val (R0 0) - (val (R0 0) * val (R1 1) - val (R1 0) * val (R0 1))) (3168 / 4503599627370496) := by
  obtain ⟨_, _, e1, _⟩ := v_ok h0 hf 1 (by omega)
  obtain ⟨_, _, e2, _⟩ := z_ok h0 h1 hf 1 (by omega)
  obtain ⟨_, b0, _⟩ := h0 0 (by omega)
  obtain ⟨_, b1, _⟩ := h1 0 (by omega)
  have g1 := bd_mul e2 b0
  have g2 := bd_mul b1 e1
  have g3 := bd_sub g1 g2
  have key : (val (zF R0 R1 1) - (val (R1 1) - val (R1 0) * val (vF R0 1))) * val (R0 0) - val (R1 0) * (val (vF R0 1) * val (R0 0) - val (R0 1)) = val (zF R0 R1 1) * val (R0 0) - (val (R0 0) * val (R1 1) - val (R1 0) * val (R0 1)) := by grind
  rw [key] at g3
  exact bd_mono g3 (by grind)

end Go.Proofs.Ybulkbfeq.Fl
