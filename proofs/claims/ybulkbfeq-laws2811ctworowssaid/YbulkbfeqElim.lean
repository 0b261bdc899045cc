/-
  THE ELIMINATION AT D = 2, AS FUNCTIONS OF PLACES (YbulkbfeqPlain), AGAINST THE ROWS' OWN WORDS (vF, zF, yF, xF of YbulkbfeqCore). (No Go in sight.)
-/
import Derived.Test.YbulkbfeqCore2
namespace Go.Proofs.Ybulkbfeq.Fl
open Ieee
attribute [local go_sem] run_store_float

def rowA (A : Nat → Nat) (r j : Nat) : Nat := A (r * 4 + j)

theorem piv0 (A : Nat → Nat) : pivF 2 0 A = 0 ∨ pivF 2 0 A = 1 := by
  have := pivN_bd 2 0 A (2 - 1 - 0)
  unfold pivF; omega
theorem piv0_eq (A : Nat → Nat) : pivF 2 0 A = if fgt (fabs (A 4)) (fabs (A 0)) = true then 1 else 0 := by
  unfold pivF; simp [pivN]
theorem piv1 (A : Nat → Nat) : pivF 2 1 A = 1 := by
  unfold pivF; simp [pivN]

section
variable (A : Nat → Nat)
/-- Column 0. -/
theorem mid0 (j : Nat) (hj : j < 4) : midF 2 0 A j = rowA A (pivF 2 0 A) j := by
  unfold midF swapF rowA
  rw [if_pos (by omega), show j % (2 * 2) = j by omega, Nat.mul_assoc]
theorem mid1 (j : Nat) (hj : j < 4) : midF 2 0 A (4 + j) = rowA A (1 - pivF 2 0 A) j := by
  unfold midF swapF rowA
  rw [if_neg (by omega), show (4 + j) % (2 * 2) = j by omega, show (4 + j) / (2 * 2) = 1 by omega]
  rcases piv0 A with h | h <;> rw [h] <;> simp
theorem norm0 (j : Nat) (hj : j < 4) : normF 2 0 A j = vF (rowA A (pivF 2 0 A)) j := by
  unfold normF divJ
  rw [if_pos (by omega), show 0 * 2 * 2 + 0 = 0 from rfl, mid0 A j hj, mid0 A 0 (by omega)]
  rfl
theorem norm1 (j : Nat) (hj : j < 4) : normF 2 0 A (4 + j) = rowA A (1 - pivF 2 0 A) j := by
  unfold normF divJ
  rw [if_neg (by omega), mid1 A j hj]
theorem col0 (j : Nat) (hj : j < 4) : colF 2 0 A j = vF (rowA A (pivF 2 0 A)) j := by
  unfold colF elimR
  rw [if_neg (by omega), norm0 A j hj]
theorem col1 (j : Nat) (hj : j < 4) : colF 2 0 A (4 + j) = zF (rowA A (pivF 2 0 A)) (rowA A (1 - pivF 2 0 A)) j := by
  unfold colF elimR zF
  have e1 : (4 + j) / (2 * 2) = 1 := by omega
  have e2 : (4 + j) % (2 * 2) = j := by omega
  have n10 := norm1 A 0 (by omega)
  rw [e1, e2, norm1 A j hj, show 1 * 2 * 2 + 0 = 4 + 0 from rfl, n10, show 0 * 2 * 2 + j = j by omega, norm0 A j hj]
  by_cases h : fne (rowA A (1 - pivF 2 0 A) 0) 0 = true
  · rw [if_pos ⟨by omega, by omega, h⟩, if_pos h]
  · rw [if_neg (fun hh => h hh.2.2), if_neg h]

/-- Column 1, over whatever the first has left. -/
theorem mid2 (i : Nat) (_hi : i < 8) : midF 2 1 A i = A i := by
  unfold midF swapF
  rw [piv1]
  split
  · congr 1; omega
  · rfl
theorem norm2 (j : Nat) (hj : j < 4) : normF 2 1 A j = A j := by
  unfold normF divJ
  rw [if_neg (by omega), mid2 A j (by omega)]
theorem norm3 (j : Nat) (hj : j < 4) : normF 2 1 A (4 + j) = fdiv (A (4 + j)) (A 5) := by
  unfold normF divJ
  rw [if_pos (by omega), mid2 A (4 + j) (by omega), mid2 A (1 * 2 * 2 + 1) (by omega)]
theorem col2 (j : Nat) (hj : j < 4) : colF 2 1 A j = if fne (A 1) 0 = true then fsub (A j) (fmul (A 1) (fdiv (A (4 + j)) (A 5))) else A j := by
  unfold colF elimR
  have e1 : j / (2 * 2) = 0 := by omega
  have e2 : j % (2 * 2) = j := by omega
  rw [e1, e2, norm2 A j hj, show 0 * 2 * 2 + 1 = 1 from rfl, norm2 A 1 (by omega), show 1 * 2 * 2 + j = 4 + j by omega, norm3 A j hj]
  by_cases h : fne (A 1) 0 = true
  · rw [if_pos ⟨by omega, by omega, h⟩, if_pos h]
  · rw [if_neg (fun hh => h hh.2.2), if_neg h]
theorem col3 (j : Nat) (hj : j < 4) : colF 2 1 A (4 + j) = fdiv (A (4 + j)) (A 5) := by
  unfold colF elimR
  rw [if_neg (by omega), norm3 A j hj]
end

section
variable (A : Nat → Nat)
theorem cols1 : colsF 2 A 1 = colF 2 0 A := rfl
theorem cols2 : colsF 2 A 2 = colF 2 1 (colF 2 0 A) := rfl
theorem res_x (j : Nat) (hj : j < 4) : colsF 2 A 2 j = xF (rowA A (pivF 2 0 A)) (rowA A (1 - pivF 2 0 A)) j := by
  rw [cols2, col2 _ j hj, col0 A j hj, col0 A 1 (by omega), col1 A j hj, show (5 : Nat) = 4 + 1 from rfl, col1 A 1 (by omega)]
  rfl
theorem res_y (j : Nat) (hj : j < 4) : colsF 2 A 2 (4 + j) = yF (rowA A (pivF 2 0 A)) (rowA A (1 - pivF 2 0 A)) j := by
  rw [cols2, col3 _ j hj, col1 A j hj, show (5 : Nat) = 4 + 1 from rfl, col1 A 1 (by omega)]
  rfl
theorem inv_x (c : Nat) (hc : c < 2) : invJ 2 2 (colsF 2 A 2) (fun _ => 0) c = xF (rowA A (pivF 2 0 A)) (rowA A (1 - pivF 2 0 A)) (2 + c) := by
  rw [← res_x A (2 + c) (by omega)]
  unfold invJ
  rw [if_pos (by omega)]
  congr 1; omega
theorem inv_y (c : Nat) (hc : c < 2) : invJ 2 2 (colsF 2 A 2) (fun _ => 0) (2 + c) = yF (rowA A (pivF 2 0 A)) (rowA A (1 - pivF 2 0 A)) (2 + c) := by
  rw [← res_y A (2 + c) (by omega)]
  unfold invJ
  rw [if_pos (by omega)]
  congr 1; omega

theorem sing0 : sing 2 0 A = flt (fabs (rowA A (pivF 2 0 A) 0)) 4427486594234968593 := by
  unfold sing rowA
  congr 3; omega
theorem sing1 : sing 2 1 (colsF 2 A 1) = flt (fabs (zF (rowA A (pivF 2 0 A)) (rowA A (1 - pivF 2 0 A)) 1)) 4427486594234968593 := by
  unfold sing
  rw [piv1, cols1, show 1 * 2 * 2 + 1 = 4 + 1 from rfl, col1 A 1 (by omega)]
end

/-- Two rows, each of small whole numbers. -/
def SmallA (A : Nat → Nat) : Prop := SmallRow (rowA A 0) ∧ SmallRow (rowA A 1)
theorem SmallA.at {A : Nat → Nat} (h : SmallA A) {r : Nat} (hr : r < 2) : SmallRow (rowA A r) := by
  rcases Nat.lt_or_ge r 1 with h' | h'
  · obtain rfl : r = 0 := by omega
    exact h.1
  · obtain rfl : r = 1 := by omega
    exact h.2
theorem piv_lt (A : Nat → Nat) : pivF 2 0 A < 2 ∧ 1 - pivF 2 0 A < 2 := by rcases piv0 A with h | h <;> omega

theorem whole_ge {a : Rat} (h : ∃ n : Int, a = (n : Rat)) (h0 : a ≠ 0) : 1 ≤ abs a := by
  obtain ⟨n, rfl⟩ := h
  have hn : n ≠ 0 := by rintro rfl; exact h0 rfl
  unfold abs
  by_cases hneg : (n : Rat) < 0
  · rw [if_pos hneg]
    have : n < 0 := Rat.intCast_lt_intCast.1 hneg
    have h1 : ((1 : Int) : Rat) ≤ ((-n : Int) : Rat) := Rat.intCast_le_intCast.2 (by omega)
    rw [Rat.intCast_neg] at h1
    exact h1
  · rw [if_neg hneg]
    have : ¬ n < 0 := fun h => hneg (Rat.intCast_lt_intCast.2 h)
    have h1 : ((1 : Int) : Rat) ≤ (n : Rat) := Rat.intCast_le_intCast.2 (by omega)
    exact h1

/-- No pivot in column 0: that is, both entries are nought. -/
theorem sing0_iff {A : Nat → Nat} (h : SmallA A) : (sing 2 0 A = true → val (rowA A 0 0) = 0 ∧ val (rowA A 1 0) = 0) ∧ (sing 2 0 A = false → 1 ≤ abs (val (rowA A (pivF 2 0 A) 0))) := by
  obtain ⟨np, bp, wp⟩ := h.at (piv_lt A).1 0 (by omega)
  obtain ⟨n0, _, w0⟩ := h.1 0 (by omega)
  obtain ⟨n1, _, w1⟩ := h.2 0 (by omega)
  obtain ⟨a1, a2⟩ := fabs_ok _ np
  rw [sing0]
  have hc := c12_ok
  constructor
  · intro hs
    rw [flt_iff _ _ a1 hc.1, a2] at hs
    have hz : val (rowA A (pivF 2 0 A) 0) = 0 := by
      by_cases hz : val (rowA A (pivF 2 0 A) 0) = 0
      · exact hz
      · have := whole_ge wp hz; grind
    have hp := piv0_eq A
    obtain ⟨f1, f2⟩ := fabs_ok _ n1
    obtain ⟨g1, g2⟩ := fabs_ok _ n0
    have hg := fgt_iff (fabs (rowA A 1 0)) (fabs (rowA A 0 0)) f1 g1
    rw [f2, g2] at hg
    have hA4 : rowA A 1 0 = A 4 := rfl
    have hA0 : rowA A 0 0 = A 0 := rfl
    rw [hA4, hA0] at hg
    have nn : ∀ a : Rat, 0 ≤ abs a := fun a => (abs_le (bd_abs a)).1
    have z0 : ∀ a : Rat, abs a ≤ 0 → a = 0 := fun a h => by have := bd_abs a; unfold bd at this; grind
    by_cases hgt : fgt (fabs (A 4)) (fabs (A 0)) = true
    · rw [if_pos hgt] at hp
      rw [hp] at hz
      have h1 := hg.1 hgt
      have h2 := nn (val (A 0))
      have hz' : val (A 4) = 0 := hz
      rw [hz'] at h1
      have : abs 0 = 0 := rfl
      grind
    · rw [if_neg hgt] at hp
      rw [hp] at hz
      refine ⟨hz, ?_⟩
      have h1 : ¬ abs (val (A 0)) < abs (val (A 4)) := fun h => hgt (hg.2 h)
      have hz' : val (A 0) = 0 := hz
      rw [hz'] at h1
      have : abs 0 = 0 := rfl
      exact z0 _ (by show abs (val (A 4)) ≤ 0; grind)
  · intro hs
    rw [flt_false _ _ a1 hc.1, a2] at hs
    apply whole_ge wp
    intro hz
    rw [hz] at hs
    have : abs 0 = 0 := rfl
    grind

def det (A : Nat → Nat) : Rat := val (rowA A 0 0) * val (rowA A 1 1) - val (rowA A 0 1) * val (rowA A 1 0)
theorem det_piv (A : Nat → Nat) : abs (val (rowA A (pivF 2 0 A) 0) * val (rowA A (1 - pivF 2 0 A) 1) - val (rowA A (1 - pivF 2 0 A) 0) * val (rowA A (pivF 2 0 A) 1)) = abs (det A) := by
  unfold det
  rcases piv0 A with h | h <;> rw [h]
  · have : val (rowA A 0 0) * val (rowA A (1 - 0) 1) - val (rowA A (1 - 0) 0) * val (rowA A 0 1) = val (rowA A 0 0) * val (rowA A 1 1) - val (rowA A 0 1) * val (rowA A 1 0) := by
      show val (rowA A 0 0) * val (rowA A 1 1) - val (rowA A 1 0) * val (rowA A 0 1) = _
      grind
    rw [this]
  · have : val (rowA A 1 0) * val (rowA A (1 - 1) 1) - val (rowA A (1 - 1) 0) * val (rowA A 1 1) = -(val (rowA A 0 0) * val (rowA A 1 1) - val (rowA A 0 1) * val (rowA A 1 0)) := by
      show val (rowA A 1 0) * val (rowA A 0 1) - val (rowA A 0 0) * val (rowA A 1 1) = _
      grind
    rw [this]
    unfold abs
    split <;> split <;> grind
theorem det_whole {A : Nat → Nat} (h : SmallA A) : ∃ n : Int, det A = (n : Rat) ∧ -129 < n ∧ n < 129 := by
  obtain ⟨_, b1, n1, w1⟩ := h.1 0 (by omega)
  obtain ⟨_, b2, n2, w2⟩ := h.2 1 (by omega)
  obtain ⟨_, b3, n3, w3⟩ := h.1 1 (by omega)
  obtain ⟨_, b4, n4, w4⟩ := h.2 0 (by omega)
  have hd : det A = ((n1 * n2 - n3 * n4 : Int) : Rat) := by
    unfold det; rw [w1, w2, w3, w4, Rat.intCast_sub, Rat.intCast_mul, Rat.intCast_mul]
  have hb := bd_sub (bd_mul b1 b2) (bd_mul b3 b4)
  have hb' : bd (det A) (((128 : Int) : Rat)) := bd_mono hb (by decide +kernel)
  rw [hd] at hb'
  obtain ⟨l, r⟩ := hb'
  rw [← Rat.intCast_neg] at l
  have l' := Rat.intCast_le_intCast.1 l
  have r' := Rat.intCast_le_intCast.1 r
  exact ⟨_, hd, by omega, by omega⟩

/-- Column 1 has a pivot just where the determinant is not nought. -/
theorem sing1_iff {A : Nat → Nat} (h : SmallA A) (hf : 1 ≤ abs (val (rowA A (pivF 2 0 A) 0))) : (det A = 0 → sing 2 1 (colsF 2 A 1) = true) ∧ (det A ≠ 0 → sing 2 1 (colsF 2 A 1) = false) := by
  have s0 := h.at (piv_lt A).1
  have s1 := h.at (piv_lt A).2
  obtain ⟨_, nt, _, bt⟩ := z_ok s0 s1 hf 1 (by omega)
  obtain ⟨a1, a2⟩ := fabs_ok _ nt
  have hc := c12_ok
  have ht := t_det s0 s1 hf
  have hp := det_piv A
  rw [sing1]
  constructor
  · intro hd
    rw [flt_iff _ _ a1 hc.1, a2]
    rw [hd] at hp
    have z0 : ∀ a : Rat, abs a = abs 0 → a = 0 := fun a h => by have := bd_abs a; have e : abs 0 = 0 := rfl; unfold bd at this; grind
    rw [z0 _ hp] at ht
    have := bd_of_mul hf (c := 3168 / 4503599627370496) (bd_mono (a := val (zF (rowA A (pivF 2 0 A)) (rowA A (1 - pivF 2 0 A)) 1) * val (rowA A (pivF 2 0 A) 0)) (by unfold bd at *; grind) (Rat.le_refl))
    have := (abs_le this).2
    grind
  · intro hd
    rw [flt_false _ _ a1 hc.1, a2]
    obtain ⟨n, hn, _⟩ := det_whole h
    have h1 : 1 ≤ abs (det A) := whole_ge ⟨n, hn⟩ hd
    rw [← hp] at h1
    have := (t_big s0 s1 hf h1).1
    grind

theorem okCol0 {A : Nat → Nat} (h : SmallA A) (hf : 1 ≤ abs (val (rowA A (pivF 2 0 A) 0))) : okCol 2 0 A := by
  have s0 := h.at (piv_lt A).1
  have s1 := h.at (piv_lt A).2
  constructor
  · intro j hj
    have e : 0 * 2 * 2 + j = j := by omega
    rw [e, mid0 A j (by omega), show 0 * 2 * 2 + 0 = 0 from rfl, mid0 A 0 (by omega)]
    exact (v_ok s0 hf j (by omega)).1
  · intro r hr hrc hg j hj
    obtain rfl : r = 1 := by omega
    have e : 0 * 2 * 2 + j = j := by omega
    have e2 : 1 * 2 * 2 + j = 4 + j := by omega
    have e3 : 1 * 2 * 2 + 0 = 4 + 0 := rfl
    rw [e3, norm1 A 0 (by omega)] at hg ⊢
    rw [e, e2, norm0 A j (by omega), norm1 A j (by omega)]
    exact (z_ok s0 s1 hf j (by omega)).1 hg
theorem okCol1 {A : Nat → Nat} (h : SmallA A) (hf : 1 ≤ abs (val (rowA A (pivF 2 0 A) 0))) (hd : det A ≠ 0) : okCol 2 1 (colsF 2 A 1) := by
  have s0 := h.at (piv_lt A).1
  have s1 := h.at (piv_lt A).2
  obtain ⟨n, hn, _⟩ := det_whole h
  have h1 : 1 ≤ abs (det A) := whole_ge ⟨n, hn⟩ hd
  rw [← det_piv A] at h1
  rw [cols1]
  constructor
  · intro j hj
    have e2 : 1 * 2 * 2 + j = 4 + j := by omega
    have e3 : 1 * 2 * 2 + 1 = 4 + 1 := rfl
    rw [e2, e3, mid2 _ (4 + j) (by omega), mid2 _ (4 + 1) (by omega), col1 A j (by omega), col1 A 1 (by omega)]
    exact (y_ok s0 s1 hf h1 j (by omega)).1
  · intro r hr hrc hg j hj
    obtain rfl : r = 0 := by omega
    have e : 0 * 2 * 2 + j = j := by omega
    have e2 : 1 * 2 * 2 + j = 4 + j := by omega
    have e3 : 0 * 2 * 2 + 1 = 1 := rfl
    rw [e3, norm2 _ 1 (by omega), col0 A 1 (by omega)] at hg ⊢
    rw [e, e2, norm3 _ j (by omega), norm2 _ j (by omega), col0 A j (by omega), col1 A j (by omega), show (5 : Nat) = 4 + 1 from rfl, col1 A 1 (by omega)]
    exact (x_ok s0 s1 hf h1 j (by omega)).1 hg

end Go.Proofs.Ybulkbfeq.Fl
