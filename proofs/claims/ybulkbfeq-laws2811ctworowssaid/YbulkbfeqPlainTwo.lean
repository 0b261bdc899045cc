/-
  THE BUNDLE OF FLOAT FACTS THAT TwoRows' WALK WANTS ('Law2.Plain'), FOR EVERY FOUR SMALL INTEGERS. (No walk here.)
-/
import Derived.Test.YbulkbfeqElim
import Derived.Test.YbulkbfeqTwo
namespace Go.Proofs.Ybulkbfeq.Fl
open Ieee Law2
attribute [local go_sem] run_store_float

/-- The four words are small whole numbers. -/
def SmallQ (q : Nat → Nat) : Prop := ∀ i, i < 4 → IsNum (q i) ∧ bd (val (q i)) 8 ∧ ∃ n : Int, val (q i) = (n : Rat)

theorem row_fill (T q : Nat → Nat) (r j : Nat) (hr : r < 2) (hj : j < 4) : rowA (fillT T q 2) r j = if j < 2 then q (T r * 2 + j) else if j = 2 + r then 4607182418800017408 else 0 := by
  unfold rowA fillT
  rw [if_pos (by omega), show (r * 4 + j) / 4 = r by omega, show (r * 4 + j) % 4 = j by omega]
theorem row_left (T q : Nat → Nat) (r j : Nat) (hr : r < 2) (hj : j < 2) : rowA (fillT T q 2) r j = nmF T q 2 (r * 2 + j) := by
  rw [row_fill T q r j hr (by omega), if_pos hj]
  unfold nmF
  rw [if_pos (by omega), show (r * 2 + j) / 2 = r by omega, show (r * 2 + j) % 2 = j by omega]
theorem row_right (T q : Nat → Nat) (r c : Nat) (hr : r < 2) (hc : c < 2) : val (rowA (fillT T q 2) r (2 + c)) = if r = c then 1 else 0 := by
  rw [row_fill T q r (2 + c) hr (by omega), if_neg (by omega)]
  by_cases h : r = c
  · subst h; rw [if_pos rfl, if_pos rfl, one_ok.2]
  · rw [if_neg (by omega), if_neg h, zero_ok.2]
theorem small_fill (T q : Nat → Nat) (hT : ∀ r, r < 2 → T r < 2) (hq : SmallQ q) : SmallA (fillT T q 2) := by
  have : ∀ r, r < 2 → SmallRow (rowA (fillT T q 2) r) := by
    intro r hr j hj
    rw [row_fill T q r j hr hj]
    have hTr := hT r hr
    by_cases h : j < 2
    · rw [if_pos h]; exact hq _ (by omega)
    · rw [if_neg h]
      by_cases h2 : j = 2 + r
      · rw [if_pos h2]
        exact ⟨one_ok.1, by rw [one_ok.2]; unfold bd; grind, 1, one_ok.2⟩
      · rw [if_neg h2]
        exact ⟨zero_ok.1, by rw [zero_ok.2]; unfold bd; grind, 0, zero_ok.2⟩
  exact ⟨this 0 (by omega), this 1 (by omega)⟩

theorem plain_two (T q : Nat → Nat) (hT : ∀ r, r < 2 → T r < 2) (hq : SmallQ q) : Law2.Plain T q := by
  have hA := small_fill T q hT hq
  have hn : ∀ i, i < 4 → IsNum (nmF T q 2 i) ∧ bd (val (nmF T q 2 i)) 8 ∧ ∃ n : Int, val (nmF T q 2 i) = (n : Rat) := by
    intro i hi
    have := row_left T q (i / 2) (i % 2) (by omega) (by omega)
    rw [show i / 2 * 2 + i % 2 = i by omega] at this
    rw [← this]
    exact hA.at (by omega) _ (by omega)
  -- the determinant
  have hdet : det (fillT T q 2) = val (nmF T q 2 0) * val (nmF T q 2 3) - val (nmF T q 2 1) * val (nmF T q 2 2) := by
    unfold det
    rw [row_left T q 0 0 (by omega) (by omega), row_left T q 1 1 (by omega) (by omega), row_left T q 0 1 (by omega) (by omega), row_left T q 1 0 (by omega) (by omega)]
  obtain ⟨n0, b0, w0, e0⟩ := hn 0 (by omega)
  obtain ⟨n1, b1, w1, e1⟩ := hn 1 (by omega)
  obtain ⟨n2, b2, w2, e2⟩ := hn 2 (by omega)
  obtain ⟨n3, b3, w3, e3⟩ := hn 3 (by omega)
  obtain ⟨m1, m2, m3, m4⟩ := fmul_ok _ _ n0 n3 64 (bd_mono (bd_mul b0 b3) (by grind)) (by grind) (by grind)
  obtain ⟨k1, k2, k3, k4⟩ := fmul_ok _ _ n1 n2 64 (bd_mono (bd_mul b1 b2) (by grind)) (by grind) (by grind)
  have whole : ∀ (a b : Int) (x y : Rat), x = (a : Rat) → y = (b : Rat) → bd (x * y) 64 → x * y = ((a * b : Int) : Rat) ∧ -9007199254740992 < a * b ∧ a * b < 9007199254740992 := by
    intro a b x y hx hy hb
    have h : x * y = ((a * b : Int) : Rat) := by rw [hx, hy, Rat.intCast_mul]
    rw [h] at hb
    have hb' : bd (((a * b : Int) : Rat)) ((64 : Int) : Rat) := hb
    obtain ⟨l, r⟩ := hb'
    rw [← Rat.intCast_neg] at l
    have l' := Rat.intCast_le_intCast.1 l
    have r' := Rat.intCast_le_intCast.1 r
    exact ⟨h, by omega, by omega⟩
  obtain ⟨x1, x2, x3⟩ := whole w0 w3 _ _ e0 e3 (bd_mono (bd_mul b0 b3) (by grind))
  obtain ⟨z1, z2, z3⟩ := whole w1 w2 _ _ e1 e2 (bd_mono (bd_mul b1 b2) (by grind))
  have v1 : val (fmul (nmF T q 2 0) (nmF T q 2 3)) = val (nmF T q 2 0) * val (nmF T q 2 3) := by rw [m4 _ x1 x2 x3, x1]
  have v2 : val (fmul (nmF T q 2 1) (nmF T q 2 2)) = val (nmF T q 2 1) * val (nmF T q 2 2) := by rw [k4 _ z1 z2 z3, z1]
  obtain ⟨s1, s2, s3, s4⟩ := fsub_ok _ _ m2 k2 128 (by rw [v1, v2]; exact bd_mono (bd_sub (bd_mul b0 b3) (bd_mul b1 b2)) (by grind)) (by grind) (by grind)
  obtain ⟨dn, hdn, hd1, hd2⟩ := det_whole hA
  have vd : val (detF (nmF T q 2)) = det (fillT T q 2) := by
    rw [hdn]
    exact s4 dn (by rw [v1, v2, ← hdet, hdn]) (by omega) (by omega)
  have hne := fne_iff (detF (nmF T q 2)) 0 s2 zero_ok.1
  have hnf := fne_false (detF (nmF T q 2)) 0 s2 zero_ok.1
  rw [vd, zero_ok.2] at hne hnf
  -- columns
  have s0 := sing0_iff hA
  have hcols0 : colsF 2 (fillT T q 2) 0 = fillT T q 2 := rfl
  have sumOk : ∀ (I : Nat → Nat) (j : Nat), (∀ i, i < 2 → IsNum (I (i * 2 + j)) ∧ bd (val (I (i * 2 + j))) 10280) → okSum 2 j I (fun _ => 0) ∧ IsNum (sumN 2 j I (fun _ => 0) 2) ∧ val (sumN 2 j I (fun _ => 0) 2) = 0 := by
    intro I j hI
    have prod : ∀ i, i < 2 → (double.mul (I (i * 2 + j)) 0).isSome = true ∧ IsNum (fmul (I (i * 2 + j)) 0) ∧ val (fmul (I (i * 2 + j)) 0) = 0 := by
      intro i hi
      obtain ⟨a, b⟩ := hI i hi
      obtain ⟨p1, p2, _, p4⟩ := fmul_ok _ _ a zero_ok.1 1 (by rw [zero_ok.2]; unfold bd; grind) (by grind) (by grind)
      exact ⟨p1, p2, p4 0 (by rw [zero_ok.2, Rat.mul_zero]; rfl) (by omega) (by omega)⟩
    have add0 : ∀ x y : Nat, IsNum x → IsNum y → val x = 0 → val y = 0 → (double.add x y).isSome = true ∧ IsNum (fadd x y) ∧ val (fadd x y) = 0 := by
      intro x y hx hy ex ey
      obtain ⟨p1, p2, _, p4⟩ := fadd_ok x y hx hy 1 (by rw [ex, ey]; unfold bd; grind) (by grind) (by grind)
      exact ⟨p1, p2, p4 0 (by rw [ex, ey, Rat.add_zero]; rfl) (by omega) (by omega)⟩
    obtain ⟨p1, p2, p3⟩ := prod 0 (by omega)
    obtain ⟨q1, q2, q3⟩ := prod 1 (by omega)
    obtain ⟨a1, a2, a3⟩ := add0 0 _ zero_ok.1 p2 zero_ok.2 p3
    obtain ⟨c1, c2, c3⟩ := add0 _ _ a2 q2 a3 q3
    refine ⟨?_, c2, c3⟩
    intro i hi
    rcases Nat.lt_or_ge i 1 with h | h
    · obtain rfl : i = 0 := by omega
      exact ⟨p1, a1⟩
    · obtain rfl : i = 1 := by omega
      exact ⟨q1, c1⟩
  -- where there are pivots
  have good : (∀ c, c < 2 → sing 2 c (colsF 2 (fillT T q 2) c) = false) → 1 ≤ abs (val (rowA (fillT T q 2) (pivF 2 0 (fillT T q 2)) 0)) ∧ det (fillT T q 2) ≠ 0 := by
    intro h
    have h0 := h 0 (by omega)
    rw [hcols0] at h0
    have hf := s0.2 h0
    refine ⟨hf, fun hz => ?_⟩
    have := (sing1_iff hA hf).1 hz
    rw [h 1 (by omega)] at this
    cases this
  have invOk : 1 ≤ abs (val (rowA (fillT T q 2) (pivF 2 0 (fillT T q 2)) 0)) → det (fillT T q 2) ≠ 0 → ∀ j, j < 2 → ∀ i, i < 2 → IsNum (inv2 (fillT T q 2) (i * 2 + j)) ∧ bd (val (inv2 (fillT T q 2) (i * 2 + j))) 10280 := by
    intro hf hd j hj i hi
    have h1 : 1 ≤ abs (det (fillT T q 2)) := whole_ge ⟨dn, hdn⟩ hd
    rw [← det_piv] at h1
    have r0 := hA.at (piv_lt (fillT T q 2)).1
    have r1 := hA.at (piv_lt (fillT T q 2)).2
    rcases Nat.lt_or_ge i 1 with h | h
    · obtain rfl : i = 0 := by omega
      rw [show 0 * 2 + j = j by omega]
      unfold inv2
      rw [inv_x _ j hj]
      obtain ⟨_, a, _, b⟩ := x_ok r0 r1 hf h1 (2 + j) (by omega)
      exact ⟨a, b⟩
    · obtain rfl : i = 1 := by omega
      rw [show 1 * 2 + j = 2 + j by omega]
      unfold inv2
      rw [inv_y _ j hj]
      obtain ⟨_, a, b, _⟩ := y_ok r0 r1 hf h1 (2 + j) (by omega)
      exact ⟨a, bd_mono b (by grind)⟩
  refine ⟨m1, k1, s1, ?_, ?_, ?_, ?_⟩
  · intro c hc hs
    have h0 := hs 0 (by omega)
    rw [hcols0] at h0
    have hf := s0.2 h0
    rcases Nat.lt_or_ge c 1 with h | h
    · obtain rfl : c = 0 := by omega
      exact okCol0 hA hf
    · obtain rfl : c = 1 := by omega
      refine okCol1 hA hf fun hz => ?_
      have := (sing1_iff hA hf).1 hz
      rw [hs 1 (by omega)] at this
      cases this
  · intro hs j hj _
    obtain ⟨hf, hd⟩ := good hs
    exact (sumOk _ j (invOk hf hd j hj)).1
  · intro hz
    have hd := hnf.1 hz
    by_cases h0 : sing 2 0 (fillT T q 2) = true
    · exact ⟨0, by omega, h0⟩
    · have hf := s0.2 (by simpa using h0)
      exact ⟨1, by omega, (sing1_iff hA hf).1 hd⟩
  · intro hnz
    have hd := hne.1 hnz
    have h0 : sing 2 0 (fillT T q 2) = false := by
      cases h : sing 2 0 (fillT T q 2) with
      | false => rfl
      | true =>
        obtain ⟨za, zb⟩ := s0.1 h
        exfalso
        apply hd
        unfold det
        rw [za, zb]
        grind
    have hf := s0.2 h0
    have h1 : 1 ≤ abs (det (fillT T q 2)) := whole_ge ⟨dn, hdn⟩ hd
    rw [← det_piv] at h1
    have r0 := hA.at (piv_lt (fillT T q 2)).1
    have r1 := hA.at (piv_lt (fillT T q 2)).2
    refine ⟨?_, ?_, ?_, ?_⟩
    · intro c hc
      rcases Nat.lt_or_ge c 1 with h | h
      · obtain rfl : c = 0 := by omega
        exact h0
      · obtain rfl : c = 1 := by omega
        exact (sing1_iff hA hf).2 hd
    · intro j hj
      obtain ⟨_, a, b⟩ := sumOk _ j (invOk hf hd j hj)
      rw [flt_false _ _ a zero_ok.1, b, zero_ok.2]
      exact Rat.le_refl
    · intro r hr c hc
      obtain ⟨_, xn, _, xb⟩ := x_ok r0 r1 hf h1 (2 + c) (by omega)
      obtain ⟨_, yn, yb, _⟩ := y_ok r0 r1 hf h1 (2 + c) (by omega)
      obtain ⟨na, ba, _⟩ := hn (r * 2) (by omega)
      obtain ⟨nb, bb, _⟩ := hn (r * 2 + 1) (by omega)
      have ex : bd (val (nmF T q 2 (r * 2)) * val (xF (rowA (fillT T q 2) (pivF 2 0 (fillT T q 2))) (rowA (fillT T q 2) (1 - pivF 2 0 (fillT T q 2))) (2 + c)) + val (nmF T q 2 (r * 2 + 1)) * val (yF (rowA (fillT T q 2) (pivF 2 0 (fillT T q 2))) (rowA (fillT T q 2) (1 - pivF 2 0 (fillT T q 2))) (2 + c)) - (if r = c then 1 else 0)) (600000 / 4503599627370496) := by
        have l0 := row_left T q r 0 hr (by omega)
        have l1 := row_left T q r 1 hr (by omega)
        rw [Nat.add_zero] at l0
        rw [← l0, ← l1, ← row_right T q r c hr hc]
        by_cases hrp : r = pivF 2 0 (fillT T q 2)
        · have := chk_piv r0 r1 hf h1 (2 + c) (by omega)
          rw [hrp]; exact this
        · have hr1 : r = 1 - pivF 2 0 (fillT T q 2) := by have := piv0 (fillT T q 2); omega
          have := chk_oth r0 r1 hf h1 (2 + c) (by omega)
          rw [hr1]; exact this
      have := chk_word na nb xn yn ba bb xb yb ex
      unfold okChk inv2
      rw [inv_x _ c hc, inv_y _ c hc]
      obtain ⟨p1, p2, p3, p4, p5⟩ := this
      refine ⟨p1, p2, p3, fun h => p4 (if_pos h), fun h => p5 (if_neg h)⟩
    · intro i hi
      obtain ⟨_, a, b⟩ := sumOk _ i (invOk hf hd i hi)
      unfold wtJ
      rw [if_pos hi, fne_false _ _ a zero_ok.1, b, zero_ok.2]

end Go.Proofs.Ybulkbfeq.Fl
