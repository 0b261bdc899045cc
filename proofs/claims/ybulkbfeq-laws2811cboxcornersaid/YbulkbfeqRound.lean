/-
  ROUNDING (no Go in sight): how far the word that Ieee's 'nearest' gives may lie from the number that was asked for.
-/
import Ieee.Arith
namespace Go.Proofs.Ybulkbfeq.Fl
open Ieee

theorem lt_log2 (n : Nat) : n < 2 ^ (n.log2 + 1) := Nat.lt_log2_self
theorem log2_le (n : Nat) (h : n ≠ 0) : 2 ^ n.log2 ≤ n := Nat.log2_self_le h

/-- A whole number of units nearest to n / 2 ^ drop. -/
theorem cut_even (neg : Bool) (n drop : Nat) :
    2 * n ≤ 2 * (Toward.even.cut neg n drop * 2 ^ drop) + 2 ^ drop ∧ 2 * (Toward.even.cut neg n drop * 2 ^ drop) ≤ 2 * n + 2 ^ drop := by
  unfold Toward.cut
  simp only [Nat.one_shiftLeft]
  by_cases h : drop ≤ n.log2 + 2
  · rw [Nat.min_eq_left h]
    generalize hg : 2 ^ drop = g
    have hpos : 0 < g := by rw [← hg]; exact Nat.two_pow_pos _
    have hdm := Nat.div_add_mod n g
    have hml := Nat.mod_lt n hpos
    generalize n / g = low at hdm
    generalize n % g = rest at hdm hml
    have e1 : g * low = low * g := Nat.mul_comm _ _
    have key : (low + (decide (g < 2 * rest) || (g == 2 * rest && low % 2 == 1)).toNat) * g = low * g + (decide (g < 2 * rest) || (g == 2 * rest && low % 2 == 1)).toNat * g := Nat.add_mul _ _ _
    rw [key]
    cases hm : (decide (g < 2 * rest) || (g == 2 * rest && low % 2 == 1)) with
    | true =>
      have : g ≤ 2 * rest := by
        rw [Bool.or_eq_true] at hm
        rcases hm with hm | hm
        · have := of_decide_eq_true hm; omega
        · rw [Bool.and_eq_true] at hm
          have := of_decide_eq_true (p := g = 2 * rest) (by simpa using hm.1)
          omega
      simp only [Bool.toNat_true, Nat.one_mul]
      omega
    | false =>
      have : 2 * rest ≤ g := by
        rw [Bool.or_eq_false_iff] at hm
        have := of_decide_eq_false hm.1
        omega
      simp only [Bool.toNat_false, Nat.zero_mul, Nat.add_zero]
      omega
  · rw [Nat.min_eq_right (by omega)]
    have h1 : n < 2 ^ (n.log2 + 1) := lt_log2 n
    have h2 : 2 ^ (n.log2 + 2) = 2 * 2 ^ (n.log2 + 1) := by rw [Nat.pow_succ, Nat.mul_comm]
    have h3 : 2 ^ (n.log2 + 2) ≤ 2 ^ drop := Nat.pow_le_pow_right (by omega) (by omega)
    have hd : n / 2 ^ (n.log2 + 2) = 0 := Nat.div_eq_of_lt (by omega)
    have hm : n % 2 ^ (n.log2 + 2) = n := Nat.mod_eq_of_lt (by omega)
    rw [hd, hm]
    have hb : (decide (2 ^ (n.log2 + 2) < 2 * n) || (2 ^ (n.log2 + 2) == 2 * n && 0 % 2 == 1)) = false := by
      simp; omega
    rw [hb]
    simp
    omega

theorem cut_zero (neg : Bool) (n : Nat) : Toward.even.cut neg n 0 = n := by
  unfold Toward.cut
  simp [Nat.mod_one]

theorem f_binade : double.binade = 4503599627370496 := by decide +kernel
theorem f_inf : double.infRung = 9218868437227405312 := by decide +kernel
theorem f_sign : double.signWeight = 9223372036854775808 := by decide +kernel
theorem f_least : double.leastPlace = -1074 := by decide +kernel
theorem f_frac : double.fractionBits = 52 := rfl

/-- The word of a rung, read back. -/
theorem read_word (neg : Bool) (rung : Nat) (h : rung < 9218868437227405312) :
    double.read (double.word neg rung) = if rung < 4503599627370496 then .number neg rung (-1074) else .number neg (4503599627370496 + rung % 4503599627370496) (-1074 + (rung / 4503599627370496 - 1 : Nat)) := by
  unfold Format.read Format.word
  simp only [f_binade, f_inf, f_sign, f_least]
  have e1 : (if neg = true then 9223372036854775808 + rung else rung) % 9223372036854775808 = rung := by split <;> omega
  have e2 : ((if neg = true then 9223372036854775808 + rung else rung) / 9223372036854775808 % 2 == 1) = neg := by
    cases neg
    · simp; omega
    · simp; omega
  rw [e1, e2]
  split
  · rfl
  · rfl

/-- L binades up, 'kept' units: what the word stands for. -/
theorem read_kept (neg : Bool) (L kept : Nat) (hk : kept ≤ 9007199254740992) (hL : L = 0 ∨ 4503599627370496 ≤ kept) (hL2 : L < 2000) :
    ∃ (m e : Nat), double.read (double.word neg (L * 4503599627370496 + kept)) = .number neg m ((e : Int) - 1074) ∧ m * 2 ^ e = kept * 2 ^ L := by
  have hlt : L * 4503599627370496 + kept < 9218868437227405312 := by omega
  rw [read_word neg _ hlt]
  by_cases h : L * 4503599627370496 + kept < 4503599627370496
  · rw [if_pos h]
    obtain rfl : L = 0 := by omega
    exact ⟨_, 0, rfl, by simp⟩
  · rw [if_neg h]
    by_cases h2 : kept = 9007199254740992
    · subst h2
      refine ⟨4503599627370496, L + 1, ?_, ?_⟩
      · rw [show (L * 4503599627370496 + 9007199254740992) % 4503599627370496 = 0 by omega, show (L * 4503599627370496 + 9007199254740992) / 4503599627370496 - 1 = L + 1 by omega, Nat.add_zero]
        congr 1 <;> omega
      · rw [Nat.pow_succ]; omega
    · refine ⟨kept, L, ?_, rfl⟩
      rw [show 4503599627370496 + (L * 4503599627370496 + kept) % 4503599627370496 = kept by omega, show (L * 4503599627370496 + kept) / 4503599627370496 - 1 = L by omega]
      congr 1 <;> omega

/-- **ROUNDING.** mag * 2 ^ place, not too great, goes to m * 2 ^ (e - 1074), the unit being 2 ^ (l - 1074): within half a unit. (All is told with exponents that are natural numbers: 'up' and 'down' are the distances of place from the unit.) -/
theorem nearest_read (neg : Bool) (mag : Nat) (place : Int) (h0 : mag ≠ 0) (hbig : place + mag.log2 ≤ 900) :
    ∃ (m e l : Nat), double.read (double.nearest neg mag place) = .number neg m ((e : Int) - 1074) ∧ ((l : Int) = max (place + mag.log2 - 52) (-1074) + 1074) ∧
      (∃ kept : Nat, m * 2 ^ e = kept * 2 ^ l ∧
        2 * (mag * 2 ^ (place + 1074 - l).toNat) ≤ 2 * (kept * 2 ^ (l - 1074 - place).toNat) + 2 ^ (l - 1074 - place).toNat ∧
        2 * (kept * 2 ^ (l - 1074 - place).toNat) ≤ 2 * (mag * 2 ^ (place + 1074 - l).toNat) + 2 ^ (l - 1074 - place).toNat ∧
        ((l - 1074 - place).toNat = 0 → kept = mag * 2 ^ (place + 1074 - l).toNat)) := by
  obtain ⟨l, hl⟩ : ∃ l : Nat, (l : Int) = max (place + mag.log2 - 52) (-1074) + 1074 := ⟨(max (place + mag.log2 - 52) (-1074) + 1074).toNat, by omega⟩
  unfold Format.nearest
  rw [if_neg h0]
  simp only [f_frac, f_least, f_inf, f_binade]
  rw [show max (place + ↑mag.log2 - ((52 : Nat) : Int)) (-1074) = (l : Int) - 1074 by omega]
  rw [show ((l : Int) - 1074 - -1074).toNat = l by omega, show (place - ((l : Int) - 1074)).toNat = (place + 1074 - l).toNat by omega, Nat.shiftLeft_eq]
  have hc := cut_even neg (mag * 2 ^ (place + 1074 - l).toNat) ((l : Int) - 1074 - place).toNat
  have hz : ((l : Int) - 1074 - place).toNat = 0 → Toward.even.cut neg (mag * 2 ^ (place + 1074 - l).toNat) ((l : Int) - 1074 - place).toNat = mag * 2 ^ (place + 1074 - l).toNat := fun h => by rw [h, cut_zero]
  generalize Toward.even.cut neg (mag * 2 ^ (place + 1074 - l).toNat) ((l : Int) - 1074 - place).toNat = kept at hc hz ⊢
  have hlog1 := lt_log2 mag
  have hlog2 := log2_le mag h0
  generalize mag.log2 = g at hbig hl hlog1 hlog2
  -- kept lies between 2 ^ 52 and 2 ^ 53
  have hk : kept ≤ 9007199254740992 ∧ (l = 0 ∨ 4503599627370496 ≤ kept) := by
    by_cases hd : ((l : Int) - 1074 - place).toNat = 0
    · rw [hz hd]
      have hup : (place + 1074 - l).toNat + g ≤ 52 := by omega
      have h1 : mag * 2 ^ (place + 1074 - l).toNat ≤ 2 ^ (g + 1) * 2 ^ (place + 1074 - l).toNat := Nat.mul_le_mul_right _ (by omega)
      rw [← Nat.pow_add] at h1
      have h2 : 2 ^ (g + 1 + (place + 1074 - l).toNat) ≤ 2 ^ 53 := Nat.pow_le_pow_right (by omega) (by omega)
      refine ⟨by omega, ?_⟩
      by_cases hl0 : l = 0
      · exact .inl hl0
      · right
        have h3 : 2 ^ g * 2 ^ (place + 1074 - l).toNat ≤ mag * 2 ^ (place + 1074 - l).toNat := Nat.mul_le_mul_right _ hlog2
        rw [← Nat.pow_add, show g + (place + 1074 - l).toNat = 52 by omega] at h3
        omega
    · have hu : (place + 1074 - l).toNat = 0 := by omega
      rw [hu, Nat.pow_zero, Nat.mul_one] at hc
      obtain ⟨c1, c2⟩ := hc
      generalize hdd : ((l : Int) - 1074 - place).toNat = d at c1 c2 hd
      have hp : 0 < 2 ^ d := Nat.two_pow_pos _
      have hle : g ≤ d + 52 := by omega
      have h1 : mag < 2 ^ (d + 53) := Nat.lt_of_lt_of_le hlog1 (Nat.pow_le_pow_right (by omega) (by omega))
      rw [Nat.pow_add, Nat.mul_comm] at h1
      constructor
      · -- 2 * kept * p ≤ 2 * mag + p < (2 ^ 54 + 1) * p
        have : kept * 2 ^ d < 9007199254740993 * 2 ^ d := by
          have e : 9007199254740993 * 2 ^ d = 2 ^ 53 * 2 ^ d + 2 ^ d := by rw [show (9007199254740993 : Nat) = 2 ^ 53 + 1 from rfl, Nat.add_mul, Nat.one_mul]
          omega
        have := Nat.lt_of_mul_lt_mul_right this
        omega
      · by_cases hl0 : l = 0
        · exact .inl hl0
        · right
          have hge : g = d + 52 := by omega
          rw [hge, Nat.pow_add, Nat.mul_comm] at hlog2
          have : 4503599627370495 * 2 ^ d < kept * 2 ^ d := by
            have e : 2 ^ 52 * 2 ^ d = 4503599627370495 * 2 ^ d + 2 ^ d := by rw [show (2 ^ 52 : Nat) = 4503599627370495 + 1 from rfl, Nat.add_mul, Nat.one_mul]
            omega
          have := Nat.lt_of_mul_lt_mul_right this
          omega
  have hlb : l < 2000 := by omega
  rw [Nat.min_eq_left (by omega)]
  obtain ⟨m, e, hr, hme⟩ := read_kept neg l kept hk.1 hk.2 hlb
  exact ⟨m, e, l, hr, hl, kept, hme, hc.1, hc.2, hz⟩

end Go.Proofs.Ybulkbfeq.Fl
