/-
  +, -, *, / AND THE COMPARISONS OF float64 WORDS THAT STAND FOR NUMBERS, AGAINST THE EXACT ONES. (No Go in sight.)
-/
import Derived.Test.YbulkbfeqVal
namespace Go.Proofs.Ybulkbfeq.Fl
open Ieee

theorem V_num (s : Bool) (m : Nat) (p : Int) : V (.number s m p) = if s then -mg m p else mg m p := rfl

theorem mg_le_of_bd {s : Bool} {m : Nat} {p : Int} {B : Rat} (h : bd (V (.number s m p)) B) : mg m p ≤ B := by
  rw [V_num] at h
  unfold bd at h
  cases s <;> simp at h <;> grind

/-- A number of size at most B is written within a 2^52-nd of B; a small whole number is written exactly. -/
theorem write_bd (s : Bool) (m : Nat) (p : Int) (B : Rat) (h : bd (V (.number s m p)) B) (hB : B ≤ pw 900) (hB2 : pw (-900) ≤ B) :
    IsNum (double.write (.number s m p)) ∧ bd (val (double.write (.number s m p)) - V (.number s m p)) (B * pw (-52)) ∧
    (∀ E : Int, V (.number s m p) = (E : Rat) → -9007199254740992 < E → E < 9007199254740992 → val (double.write (.number s m p)) = (E : Rat)) := by
  have hle := mg_le_of_bd h
  obtain ⟨m', p', hr, hb, hx⟩ := write_mg s m p (Rat.le_trans hle hB)
  have hval : val (double.write (.number s m p)) = V (.number s m' p') := by unfold val; rw [hr]
  refine ⟨⟨s, m', p', hr⟩, ?_, ?_⟩
  · have e52 : pw (-52) = pw (-53) * 2 := by rw [show (-52 : Int) = -53 + 1 from rfl, pw_add]; congr 1
    have t1 : mg m p * pw (-53) ≤ B * pw (-53) := Rat.mul_le_mul_of_nonneg_right hle (Rat.le_of_lt (pw_pos _))
    have t2 : pw (-1075) ≤ B * pw (-53) := by
      have h1 : pw (-900) * pw (-53) ≤ B * pw (-53) := Rat.mul_le_mul_of_nonneg_right hB2 (Rat.le_of_lt (pw_pos _))
      rw [← pw_add] at h1
      have h2 : pw (-1075) ≤ pw (-900 + -53) := pw_mono (by omega)
      grind
    rw [hval, V_num, V_num, e52]
    unfold bd at *
    cases s <;> simp <;> grind
  · intro E hE h1 h2
    rw [hval, V_num]
    rw [V_num] at hE
    have hn : mg m p = ((E.natAbs : Nat) : Rat) := by
      have hnn := mg_nonneg m p
      have hc : ((E.natAbs : Nat) : Rat) = if 0 ≤ E then (E : Rat) else -(E : Rat) := by
        split
        · rename_i hp
          have : ((E.natAbs : Nat) : Int) = E := by omega
          have h3 : (((E.natAbs : Nat) : Int) : Rat) = (E : Rat) := by rw [this]
          exact h3
        · rename_i hp
          have : ((E.natAbs : Nat) : Int) = -E := by omega
          have h3 : (((E.natAbs : Nat) : Int) : Rat) = ((-E : Int) : Rat) := by rw [this]
          rw [Rat.intCast_neg] at h3
          exact h3
      rw [hc]
      by_cases hp : 0 ≤ E
      · rw [if_pos hp]
        have hE0 : (0 : Rat) ≤ (E : Rat) := Rat.intCast_nonneg.2 hp
        cases s <;> simp at hE <;> grind
      · rw [if_neg hp]
        have hE0 : (E : Rat) < 0 := by
          have := Rat.intCast_lt_intCast.2 (show E < 0 by omega)
          exact this
        cases s <;> simp at hE <;> grind
    have := hx E.natAbs hn (by omega)
    cases s <;> simp at hE ⊢ <;> grind

/-! ### Sums, products, quotients of data -/
theorem signed_V (s : Bool) (m up : Nat) (b : Int) : ((signed s m up : Int) : Rat) * pw b = V (.number s m (b + up)) := by
  have h1 : ((m <<< up : Nat) : Rat) * pw b = mg m (b + up) := by
    rw [Nat.shiftLeft_eq, ← mg_up]; rfl
  unfold signed
  rw [V_num]
  cases s
  · simp only [Bool.false_eq_true, if_false]; exact h1
  · simp only [if_true]
    rw [Rat.intCast_neg]
    have : (((m <<< up : Nat) : Int) : Rat) = ((m <<< up : Nat) : Rat) := rfl
    rw [this, ← h1]; grind

theorem sum_V (s t : Bool) (m n : Nat) (i j : Int) : ∃ u k b, Datum.sum (.number s m i) (.number t n j) = some (.number u k b) ∧ V (.number u k b) = V (.number s m i) + V (.number t n j) := by
  refine ⟨_, _, _, rfl, ?_⟩
  have e1 : V (.number s m i) = ((signed s m (i - min i j).toNat : Int) : Rat) * pw (min i j) := by
    rw [signed_V]; congr 2; omega
  have e2 : V (.number t n j) = ((signed t n (j - min i j).toNat : Int) : Rat) * pw (min i j) := by
    rw [signed_V]; congr 2; omega
  rw [e1, e2]
  generalize signed s m (i - min i j).toNat = a
  generalize signed t n (j - min i j).toNat = c
  generalize min i j = b
  have hsum : (a : Rat) * pw b + (c : Rat) * pw b = ((a + c : Int) : Rat) * pw b := by rw [Rat.intCast_add]; grind
  rw [hsum]
  generalize a + c = tot
  rw [V_num]
  unfold mg
  by_cases h0 : tot = 0
  · subst h0
    have z : ((Int.natAbs 0 : Nat) : Rat) = 0 := rfl
    have z2 : ((0 : Int) : Rat) = 0 := rfl
    rw [z, z2]
    split <;> grind
  · simp only [h0, if_false]
    by_cases hneg : tot < 0
    · simp only [hneg, decide_true, if_true]
      have : ((tot.natAbs : Nat) : Int) = -tot := by omega
      have h3 : (((tot.natAbs : Nat) : Int) : Rat) = ((-tot : Int) : Rat) := by rw [this]
      have h4 : ((tot.natAbs : Nat) : Rat) = -(tot : Rat) := by rw [← Rat.intCast_neg]; exact h3
      rw [h4]; grind
    · simp only [hneg, decide_false, Bool.false_eq_true, if_false]
      have : ((tot.natAbs : Nat) : Int) = tot := by omega
      have h3 : (((tot.natAbs : Nat) : Int) : Rat) = (tot : Rat) := by rw [this]
      have h4 : ((tot.natAbs : Nat) : Rat) = (tot : Rat) := h3
      rw [h4]

theorem opp_V (s : Bool) (m : Nat) (p : Int) : V (Datum.opposite (.number s m p)) = -V (.number s m p) := by
  show V (.number (!s) m p) = _
  rw [V_num, V_num]
  cases s <;> simp

theorem product_V (s t : Bool) (m n : Nat) (i j : Int) : ∃ u k b, Datum.product (.number s m i) (.number t n j) = some (.number u k b) ∧ V (.number u k b) = V (.number s m i) * V (.number t n j) := by
  refine ⟨_, _, _, rfl, ?_⟩
  have : mg (m * n) (i + j) = mg m i * mg n j := by unfold mg; rw [Rat.natCast_mul, pw_add]; grind
  rw [V_num, V_num, V_num, this]
  cases s <;> cases t <;> simp <;> grind

/-- The quotient before it is written: within a 2^53-rd of the exact one. -/
theorem quotient_V (s t : Bool) (m n : Nat) (i j : Int) (hn : n ≠ 0) : ∃ u k b, Datum.quotient 54 (.number s m i) (.number t n j) = some (.number u k b) ∧
    ∀ B, bd (V (.number s m i)) (B * mg n j) → bd (V (.number u k b) * V (.number t n j) - V (.number s m i)) (B * mg n j * pw (-53)) := by
  refine ⟨s ^^ t, 2 * ((m <<< (54 + n.log2 - m.log2)) / n) + ((m <<< (54 + n.log2 - m.log2)) % n != 0).toNat, i - j - ((54 + n.log2 - m.log2 : Nat) : Int) - 1, by simp only [Datum.quotient, if_neg hn], ?_⟩
  intro B hB
  have hle := mg_le_of_bd hB
  obtain ⟨more, hmore⟩ : ∃ more, more = 54 + n.log2 - m.log2 := ⟨_, rfl⟩
  rw [← hmore, Nat.shiftLeft_eq]
  generalize hq : m * 2 ^ more / n = q
  generalize hst : (m * 2 ^ more % n != 0).toNat = st
  have hdm := Nat.div_add_mod (m * 2 ^ more) n
  have hml := Nat.mod_lt (m * 2 ^ more) (show n > 0 by omega)
  rw [hq] at hdm
  -- |(2 q + st) n - 2 m 2^more| ≤ n
  have hb1 : (2 * q + st) * n ≤ 2 * (m * 2 ^ more) + n := by
    have e : (2 * q + st) * n = 2 * (n * q) + st * n := by rw [Nat.add_mul, Nat.mul_assoc, Nat.mul_comm q n]
    have hst1 : st ≤ 1 := by rw [← hst]; cases (m * 2 ^ more % n != 0) <;> simp
    have : st * n ≤ 1 * n := Nat.mul_le_mul_right n hst1
    omega
  have hb2 : 2 * (m * 2 ^ more) ≤ (2 * q + st) * n + n := by
    have e : (2 * q + st) * n = 2 * (n * q) + st * n := by rw [Nat.add_mul, Nat.mul_assoc, Nat.mul_comm q n]
    by_cases hz : m * 2 ^ more % n = 0
    · omega
    · have : st = 1 := by rw [← hst]; simp [hz]
      have e2 : st * n = n := by rw [this, Nat.one_mul]
      omega
  -- n ≤ 2 m 2^more / 2^53, where m is not 0
  have hb3 : m = 0 ∨ n * 2 ^ 54 ≤ 2 * (m * 2 ^ more) := by
    by_cases hm0 : m = 0
    · exact .inl hm0
    · right
      have h1 := lt_log2 n
      have h2 := log2_le m hm0
      have h3 : 2 ^ m.log2 * 2 ^ more ≤ m * 2 ^ more := Nat.mul_le_mul_right _ h2
      rw [← Nat.pow_add] at h3
      have h4 : n * 2 ^ 54 ≤ 2 ^ (n.log2 + 1) * 2 ^ 54 := Nat.mul_le_mul_right _ (by omega)
      rw [← Nat.pow_add] at h4
      have h5 : 2 ^ (n.log2 + 1 + 54) ≤ 2 ^ (m.log2 + more + 1) := Nat.pow_le_pow_right (by omega) (by omega)
      have h6 : 2 ^ (m.log2 + more + 1) = 2 * 2 ^ (m.log2 + more) := by rw [Nat.pow_succ, Nat.mul_comm]
      omega
  -- in rationals
  have hX : 2 * mg m i = mg (2 * (m * 2 ^ more)) (i - more) := by
    rw [mg_two, mg_up]; congr 2; omega
  have hP : mg (2 * q + st) (i - j - more - 1) * mg n j * 2 = mg ((2 * q + st) * n) (i - more) := by
    unfold mg
    have e : pw (i - more) = pw (i - j - more - 1) * pw j * 2 := by
      have : (2 : Rat) = pw 1 := rfl
      rw [this, ← pw_add, ← pw_add]; congr 1; omega
    rw [Rat.natCast_mul, e]
    grind
  have i1 := mg_mono hb1 (i - more)
  have i2 := mg_mono hb2 (i - more)
  rw [mg_add, ← hX, ← hP] at i1
  rw [mg_add, ← hX, ← hP] at i2
  have i3 : mg n (i - more) ≤ 2 * mg m i * pw (-54) ∨ mg m i = 0 := by
    rcases hb3 with h | h
    · right; subst h; unfold mg; grind
    · left
      have h1 := mg_mono h (i - more)
      rw [← hX, mg_up] at h1
      have h2 := Rat.mul_le_mul_of_nonneg_right h1 (Rat.le_of_lt (pw_pos (-54)))
      have h3 : mg n (i - more + (54 : Nat)) * pw (-54) = mg n (i - more) := by
        unfold mg
        rw [pw_add]
        have := pw_mul_neg 54
        have e : pw ((54 : Nat) : Int) = pw 54 := rfl
        rw [e]
        grind
      rw [h3] at h2
      exact h2
  have e54 : pw (-53) = pw (-54) * 2 := by rw [show (-53 : Int) = -54 + 1 from rfl, pw_add]; congr 1
  have hp54 := pw_pos (-54)
  have key : bd (mg (2 * q + st) (i - j - more - 1) * mg n j - mg m i) (B * mg n j * pw (-53)) := by
    have t : mg m i * pw (-54) ≤ B * mg n j * pw (-54) := Rat.mul_le_mul_of_nonneg_right hle (Rat.le_of_lt hp54)
    have t0 : 0 ≤ mg m i * pw (-54) := Rat.mul_nonneg (mg_nonneg _ _) (Rat.le_of_lt hp54)
    rw [e54]
    rcases i3 with h | h
    · unfold bd; grind
    · -- m = 0: the quotient is 0
      have hm0 : m = 0 := by
        have hpp := pw_pos i
        unfold mg at h
        by_cases hm : m = 0
        · exact hm
        · have : (0 : Rat) < (m : Rat) := Rat.natCast_pos.2 (by omega)
          have := Rat.mul_pos this hpp
          grind
      have hz : 2 * q + st = 0 := by
        have hq0 : q = 0 := by rw [← hq, hm0]; simp
        have hs0 : st = 0 := by rw [← hst, hm0]; simp
        omega
      rw [hz]
      have hz0 : mg 0 (i - j - more - 1) = 0 := by unfold mg; grind
      rw [hz0, h]
      unfold bd; grind
  rw [V_num, V_num, V_num]
  unfold bd at *
  cases s <;> cases t <;> simp <;> grind

/-! ### The operations on words -/
theorem add_val (x y : Nat) (hx : IsNum x) (hy : IsNum y) (B : Rat) (h : bd (val x + val y) B) (hB : B ≤ pw 900) (hB2 : pw (-900) ≤ B) :
    ∃ r, double.add x y = some r ∧ IsNum r ∧ bd (val r - (val x + val y)) (B * pw (-52)) ∧ (∀ E : Int, val x + val y = (E : Rat) → -9007199254740992 < E → E < 9007199254740992 → val r = (E : Rat)) := by
  obtain ⟨s, m, i, hx⟩ := hx
  obtain ⟨t, n, j, hy⟩ := hy
  obtain ⟨u, k, b, hs, hv⟩ := sum_V s t m n i j
  have e1 : val x = V (.number s m i) := by unfold val; rw [hx]
  have e2 : val y = V (.number t n j) := by unfold val; rw [hy]
  rw [e1, e2, ← hv] at h ⊢
  obtain ⟨w1, w2, w3⟩ := write_bd u k b B h hB hB2
  exact ⟨_, by unfold Format.add; rw [hx, hy, hs]; rfl, w1, w2, w3⟩

theorem sub_val (x y : Nat) (hx : IsNum x) (hy : IsNum y) (B : Rat) (h : bd (val x - val y) B) (hB : B ≤ pw 900) (hB2 : pw (-900) ≤ B) :
    ∃ r, double.sub x y = some r ∧ IsNum r ∧ bd (val r - (val x - val y)) (B * pw (-52)) ∧ (∀ E : Int, val x - val y = (E : Rat) → -9007199254740992 < E → E < 9007199254740992 → val r = (E : Rat)) := by
  obtain ⟨s, m, i, hx⟩ := hx
  obtain ⟨t, n, j, hy⟩ := hy
  obtain ⟨u, k, b, hs, hv⟩ := sum_V s (!t) m n i j
  have e1 : val x = V (.number s m i) := by unfold val; rw [hx]
  have e2 : val y = V (.number t n j) := by unfold val; rw [hy]
  have e3 : V (.number u k b) = val x - val y := by
    rw [hv, e1, e2]
    have := opp_V t n j
    have h' : Datum.opposite (.number t n j) = .number (!t) n j := rfl
    rw [h'] at this
    rw [this]; grind
  rw [← e3] at h ⊢
  obtain ⟨w1, w2, w3⟩ := write_bd u k b B h hB hB2
  refine ⟨_, ?_, w1, w2, w3⟩
  unfold Format.sub
  rw [hx, hy]
  show Option.map double.write (Datum.sum (.number s m i) (.number (!t) n j)) = _
  rw [hs]; rfl

theorem mul_val (x y : Nat) (hx : IsNum x) (hy : IsNum y) (B : Rat) (h : bd (val x * val y) B) (hB : B ≤ pw 900) (hB2 : pw (-900) ≤ B) :
    ∃ r, double.mul x y = some r ∧ IsNum r ∧ bd (val r - val x * val y) (B * pw (-52)) ∧ (∀ E : Int, val x * val y = (E : Rat) → -9007199254740992 < E → E < 9007199254740992 → val r = (E : Rat)) := by
  obtain ⟨s, m, i, hx⟩ := hx
  obtain ⟨t, n, j, hy⟩ := hy
  obtain ⟨u, k, b, hs, hv⟩ := product_V s t m n i j
  have e1 : val x = V (.number s m i) := by unfold val; rw [hx]
  have e2 : val y = V (.number t n j) := by unfold val; rw [hy]
  rw [e1, e2, ← hv] at h ⊢
  obtain ⟨w1, w2, w3⟩ := write_bd u k b B h hB hB2
  exact ⟨_, by unfold Format.mul; rw [hx, hy, hs]; rfl, w1, w2, w3⟩

/-- x / y, told by the product with y: y is not nought, and |x| ≤ B |y|. -/
theorem div_val (x y : Nat) (hx : IsNum x) (hy : IsNum y) (h0 : val y ≠ 0) (B : Rat) (h : bd (val x) (B * (if val y < 0 then -val y else val y))) (hB : 2 * B ≤ pw 900) (hB2 : pw (-900) ≤ B) :
    ∃ r, double.div x y = some r ∧ IsNum r ∧ bd (val r) (2 * B) ∧ bd (val r * val y - val x) (B * pw (-50) * (if val y < 0 then -val y else val y)) := by
  obtain ⟨s, m, i, hx⟩ := hx
  obtain ⟨t, n, j, hy⟩ := hy
  have e1 : val x = V (.number s m i) := by unfold val; rw [hx]
  have e2 : val y = V (.number t n j) := by unfold val; rw [hy]
  have hn : n ≠ 0 := by
    intro hn; apply h0; rw [e2, V_num, hn]; unfold mg; cases t <;> simp
  have hmg : 0 < mg n j := Rat.mul_pos (Rat.natCast_pos.2 (by omega)) (pw_pos j)
  have habs : (if val y < 0 then -val y else val y) = mg n j := by
    rw [e2, V_num]; cases t <;> simp <;> grind
  rw [habs] at h ⊢
  obtain ⟨u, k, b, hs, hv⟩ := quotient_V s t m n i j hn
  rw [e1] at h ⊢
  have hv' := hv B h
  -- the quotient is at most B and a bit
  have hp53 : pw (-53) ≤ 1 / 4 := by
    have : pw (-53) ≤ pw (-2) := pw_mono (by omega)
    have e : pw (-2) = 1 / 4 := by unfold pw; decide +kernel
    grind
  have hp53' := pw_pos (-53)
  have hBn : 0 ≤ B := by have := pw_pos (-900); grind
  have hq : bd (V (.number u k b)) (B * (1 + pw (-53))) := by
    have hy' : bd (V (.number u k b) * V (.number t n j)) (B * (1 + pw (-53)) * mg n j) := by
      have := bd_add hv' h
      unfold bd at *; grind
    have : ∀ a c : Rat, a * mg n j ≤ c * mg n j → a ≤ c := fun a c hac => Rat.le_of_mul_le_mul_right hac hmg
    rw [V_num t] at hy'
    unfold bd at *
    cases t with
    | true =>
      simp only [if_true] at hy'
      refine ⟨this _ _ ?_, this _ _ ?_⟩ <;> grind
    | false =>
      simp only [Bool.false_eq_true, if_false] at hy'
      refine ⟨this _ _ ?_, this _ _ ?_⟩ <;> grind
  have hq2 : bd (V (.number u k b)) (2 * B) := by
    refine bd_mono hq ?_
    have := Rat.mul_le_mul_of_nonneg_left hp53 hBn
    grind
  obtain ⟨w1, w2, _⟩ := write_bd u k b (B * (1 + pw (-53))) hq (by have := Rat.mul_le_mul_of_nonneg_left hp53 hBn; grind) (by have := Rat.mul_nonneg hBn (Rat.le_of_lt hp53'); grind)
  refine ⟨_, by unfold Format.div; rw [hx, hy]; show Option.map double.write (Datum.quotient 54 _ _) = _; rw [hs]; rfl, w1, ?_, ?_⟩
  · have hp52 : pw (-52) ≤ 1 / 4 := by
      have : pw (-52) ≤ pw (-2) := pw_mono (by omega)
      have e : pw (-2) = 1 / 4 := by unfold pw; decide +kernel
      grind
    have hp52' := pw_pos (-52)
    have f1 := Rat.mul_le_mul_of_nonneg_left hp53 hBn
    have f2 := mul_bd_nonneg hBn (Rat.le_refl) (Rat.le_of_lt hp52') hp52
    have f3 := mul_bd_nonneg (Rat.mul_nonneg hBn (Rat.le_of_lt hp53')) f1 (Rat.le_of_lt hp52') hp52
    unfold bd at *
    grind
  · have hp52' := pw_pos (-52)
    have e50 : pw (-50) = pw (-52) * 4 := by rw [show (-50 : Int) = -52 + 2 from rfl, pw_add]; congr 1
    have e53 : pw (-52) = pw (-53) * 2 := by rw [show (-52 : Int) = -53 + 1 from rfl, pw_add]; congr 1
    -- (r - q) y + (q y - x)
    have hy' : bd (V (.number t n j)) (mg n j) := by rw [V_num]; unfold bd; cases t <;> simp <;> grind
    have g1 := bd_mul w2 hy'
    rw [e2]
    have g2 := bd_add g1 hv'
    have f0 : B * (1 + pw (-53)) * pw (-52) ≤ B * pw (-52) * 2 := by
      have f1 : B * (1 + pw (-53)) ≤ B * 2 := Rat.mul_le_mul_of_nonneg_left (by grind) hBn
      have := Rat.mul_le_mul_of_nonneg_right f1 (Rat.le_of_lt hp52')
      grind
    have f2 := Rat.mul_le_mul_of_nonneg_right f0 (Rat.le_of_lt hmg)
    have f3 : 0 ≤ B * mg n j * pw (-53) := Rat.mul_nonneg (Rat.mul_nonneg hBn (Rat.le_of_lt hmg)) (Rat.le_of_lt hp53')
    have f4 : B * pw (-50) * mg n j = B * pw (-52) * 2 * mg n j + B * mg n j * pw (-53) * 4 := by rw [e50, e53]; grind
    rw [f4]
    unfold bd at *
    grind

/-! ### Comparisons -/
theorem order_val (x y : Nat) (hx : IsNum x) (hy : IsNum y) : (double.order x y = some .lt ↔ val x < val y) ∧ (double.order x y = some .eq ↔ val x = val y) ∧ (double.order x y = some .gt ↔ val y < val x) := by
  obtain ⟨s, m, i, hx⟩ := hx
  obtain ⟨t, n, j, hy⟩ := hy
  have e1 : val x = ((signed s m (i - min i j).toNat : Int) : Rat) * pw (min i j) := by
    rw [signed_V]; unfold val; rw [hx]; congr 2; omega
  have e2 : val y = ((signed t n (j - min i j).toNat : Int) : Rat) * pw (min i j) := by
    rw [signed_V]; unfold val; rw [hy]; congr 2; omega
  have ho : double.order x y = some (compare (signed s m (i - min i j).toNat) (signed t n (j - min i j).toNat)) := by
    unfold Format.order; rw [hx, hy]; rfl
  rw [ho, e1, e2]
  generalize signed s m (i - min i j).toNat = a
  generalize signed t n (j - min i j).toNat = c
  have hp := pw_pos (min i j)
  generalize pw (min i j) = z at hp
  have lt_iff : ∀ a c : Int, (a : Rat) * z < (c : Rat) * z ↔ a < c := by
    intro a c
    constructor
    · intro h
      by_cases h' : a < c
      · exact h'
      · have h1 : (c : Rat) ≤ (a : Rat) := Rat.intCast_le_intCast.2 (by omega)
        have := Rat.mul_le_mul_of_nonneg_right h1 (Rat.le_of_lt hp)
        grind
    · intro h
      exact Rat.mul_lt_mul_of_pos_right (Rat.intCast_lt_intCast.2 h) hp
  have eq_iff : (a : Rat) * z = (c : Rat) * z ↔ a = c := by
    constructor
    · intro h
      have h1 : ¬ a < c := fun hh => by have := (lt_iff a c).2 hh; grind
      have h2 : ¬ c < a := fun hh => by have := (lt_iff c a).2 hh; grind
      omega
    · intro h; rw [h]
  rw [lt_iff, eq_iff, lt_iff]
  refine ⟨?_, ?_, ?_⟩
  · simp [Int.compare_eq_lt]
  · simp
  · simp [Int.compare_eq_gt]

end Go.Proofs.Ybulkbfeq.Fl
