/-
  WHAT A float64 WORD STANDS FOR, AS A RATIONAL NUMBER; how far each operation of Ieee lies from the exact one; what the comparisons say. (No Go in sight.)
-/
import Derived.Test.YbulkbfeqRound
namespace Go.Proofs.Ybulkbfeq.Fl
open Ieee

/-! ### Powers of two -/
def pw (e : Int) : Rat := (2 : Rat) ^ e
theorem two_ne : (2 : Rat) ≠ 0 := by decide
theorem pw_pos (e : Int) : 0 < pw e := Rat.zpow_pos (by decide)
theorem pw_add (a b : Int) : pw (a + b) = pw a * pw b := Rat.zpow_add two_ne a b
theorem pw_nat (n : Nat) : pw (n : Int) = ((2 ^ n : Nat) : Rat) := by
  unfold pw
  rw [Rat.zpow_natCast, Rat.natCast_pow]
  rfl
theorem pw_zero : pw 0 = 1 := Rat.zpow_zero 2
theorem pw_ge_one (n : Nat) : 1 ≤ pw (n : Int) := by
  rw [pw_nat]
  have h : (1 : Nat) ≤ 2 ^ n := Nat.one_le_two_pow
  have h2 : ((1 : Nat) : Rat) ≤ ((2 ^ n : Nat) : Rat) := Rat.natCast_le_natCast.2 h
  exact h2
theorem pw_mono {a b : Int} (h : a ≤ b) : pw a ≤ pw b := by
  obtain ⟨n, hn⟩ : ∃ n : Nat, b = a + n := ⟨(b - a).toNat, by omega⟩
  rw [hn, pw_add]
  have h1 := pw_ge_one n
  have h2 := pw_pos a
  have := Rat.mul_le_mul_of_nonneg_left h1 (Rat.le_of_lt h2)
  rwa [Rat.mul_one] at this
theorem pw_lt {a b : Int} (h : pw a < pw b) : a < b := by
  by_cases h' : b ≤ a
  · have := pw_mono h'
    grind
  · omega
theorem pw_mul_neg (a : Int) : pw a * pw (-a) = 1 := by rw [← pw_add, show a + -a = 0 by omega, pw_zero]

/-! ### What a word stands for -/
def V : Datum → Rat
  | .number s m p => if s then -((m : Rat) * pw p) else (m : Rat) * pw p
  | _ => 0
def val (x : Nat) : Rat := V (double.read x)
def IsNum (x : Nat) : Prop := ∃ s m p, double.read x = .number s m p

/-- a lies within e of 0. -/
def bd (a e : Rat) : Prop := -e ≤ a ∧ a ≤ e

theorem bd_mono {a e f : Rat} (h : bd a e) (hf : e ≤ f) : bd a f := by unfold bd at *; grind
theorem bd_nonneg {a e : Rat} (h : bd a e) : 0 ≤ e := by unfold bd at *; grind
theorem bd_add {a b e f : Rat} (h : bd a e) (k : bd b f) : bd (a + b) (e + f) := by unfold bd at *; grind
theorem bd_sub {a b e f : Rat} (h : bd a e) (k : bd b f) : bd (a - b) (e + f) := by unfold bd at *; grind
theorem bd_neg {a e : Rat} (h : bd a e) : bd (-a) e := by unfold bd at *; grind
theorem mul_bd_nonneg {a b e f : Rat} (ha : 0 ≤ a) (hae : a ≤ e) (hb : 0 ≤ b) (hbf : b ≤ f) : 0 ≤ a * b ∧ a * b ≤ e * f := by
  refine ⟨Rat.mul_nonneg ha hb, ?_⟩
  have h1 := Rat.mul_le_mul_of_nonneg_right hae hb
  have h2 := Rat.mul_le_mul_of_nonneg_left hbf (show 0 ≤ e by grind)
  grind
theorem bd_mul {a b e f : Rat} (h : bd a e) (k : bd b f) : bd (a * b) (e * f) := by
  unfold bd at *
  by_cases ha : 0 ≤ a
  · by_cases hb : 0 ≤ b
    · have := mul_bd_nonneg ha h.2 hb k.2
      grind
    · have := mul_bd_nonneg ha h.2 (show 0 ≤ -b by grind) (show -b ≤ f by grind)
      grind
  · by_cases hb : 0 ≤ b
    · have := mul_bd_nonneg (show 0 ≤ -a by grind) (show -a ≤ e by grind) hb k.2
      grind
    · have := mul_bd_nonneg (show 0 ≤ -a by grind) (show -a ≤ e by grind) (show 0 ≤ -b by grind) (show -b ≤ f by grind)
      grind

/-! ### Writing a number -/
def mg (m : Nat) (p : Int) : Rat := (m : Rat) * pw p
theorem mg_nonneg (m : Nat) (p : Int) : 0 ≤ mg m p := Rat.mul_nonneg (Rat.natCast_nonneg) (Rat.le_of_lt (pw_pos p))
theorem mg_up (m : Nat) (p : Int) (k : Nat) : mg (m * 2 ^ k) p = mg m (p + k) := by
  unfold mg
  rw [Rat.natCast_mul, ← pw_nat, pw_add]
  grind
theorem cast_le {a b : Nat} (h : a ≤ b) : (a : Rat) ≤ (b : Rat) := Rat.natCast_le_natCast.2 h
theorem mg_mono {a b : Nat} (h : a ≤ b) (p : Int) : mg a p ≤ mg b p := Rat.mul_le_mul_of_nonneg_right (cast_le h) (Rat.le_of_lt (pw_pos p))
theorem mg_add (a b : Nat) (p : Int) : mg (a + b) p = mg a p + mg b p := by unfold mg; rw [Rat.natCast_add]; grind
theorem mg_two (a : Nat) (p : Int) : mg (2 * a) p = 2 * mg a p := by unfold mg; rw [Rat.natCast_mul]; grind
theorem mg_one (p : Int) : mg 1 p = pw p := by unfold mg; grind
theorem mg_pow (k : Nat) (p : Int) : mg (2 ^ k) p = pw (p + k) := by
  have := mg_up 1 p k
  rw [Nat.one_mul, mg_one] at this
  exact this
theorem log_le (m : Nat) (p : Int) (h : m ≠ 0) : pw (p + m.log2) ≤ mg m p := by
  rw [← mg_pow]
  exact mg_mono (log2_le m h) p

/-- **WRITING.** The number mg m p comes out as Y, within half a unit U of it; U is at most a 2^52-nd of it, or the least unit of all. -/
theorem write_mg (s : Bool) (m : Nat) (p : Int) (h : mg m p ≤ pw 900) :
    ∃ (m' : Nat) (p' : Int), double.read (double.write (.number s m p)) = .number s m' p' ∧
      bd (mg m' p' - mg m p) (mg m p * pw (-53) + pw (-1075)) ∧
      (∀ n : Nat, mg m p = (n : Rat) → n < 9007199254740992 → mg m' p' = (n : Rat)) := by
  by_cases h0 : m = 0
  · subst h0
    have hz : ∀ q, mg 0 q = 0 := fun q => by unfold mg; grind
    refine ⟨0, -1074, ?_, ?_, ?_⟩
    · show double.read (double.nearest s 0 p) = _
      unfold Format.nearest
      rw [if_pos rfl, read_word s 0 (by omega), if_pos (by omega)]
    · rw [hz, hz]; have := pw_pos (-1075); unfold bd; grind
    · intro n hn _; rw [hz] at hn ⊢; exact hn
  · have hlog := log_le m p h0
    have hbig : p + m.log2 ≤ 900 := by
      by_cases hh : p + m.log2 ≤ 900
      · exact hh
      · have h1 : pw 901 ≤ pw (p + m.log2) := pw_mono (by omega)
        have h2 : pw 901 = pw 900 * 2 := by rw [show (901 : Int) = 900 + 1 from rfl, pw_add]; congr 1
        have := pw_pos 900
        grind
    obtain ⟨m', e, l, hr, hl, kept, hk, c1, c2, _⟩ := nearest_read s m p h0 hbig
    refine ⟨m', (e : Int) - 1074, hr, ?_⟩
    -- everything in units of 2 ^ b
    obtain ⟨up, hup⟩ : ∃ up : Nat, up = (p + 1074 - l).toNat := ⟨_, rfl⟩
    obtain ⟨dn, hdn⟩ : ∃ dn : Nat, dn = ((l : Int) - 1074 - p).toNat := ⟨_, rfl⟩
    rw [← hup, ← hdn] at c1 c2
    have hY : mg m' ((e : Int) - 1074) = mg kept ((l : Int) - 1074) := by
      have := mg_up m' (-1074) e
      rw [hk, mg_up kept (-1074) l] at this
      rw [show (e : Int) - 1074 = -1074 + e by omega, show (l : Int) - 1074 = -1074 + l by omega]
      exact this.symm
    obtain ⟨b, hb1, hb2⟩ : ∃ b : Int, p = b + up ∧ (l : Int) - 1074 = b + dn := ⟨p - up, by omega, by omega⟩
    have hX : mg m p = mg (m * 2 ^ up) b := by rw [mg_up, ← hb1]
    have hY2 : mg kept ((l : Int) - 1074) = mg (kept * 2 ^ dn) b := by rw [mg_up, ← hb2]
    have hU : pw ((l : Int) - 1074) = mg (2 ^ dn) b := by rw [mg_pow, ← hb2]
    have i1 := mg_mono c1 b
    have i2 := mg_mono c2 b
    rw [mg_add, mg_two, mg_two, ← hX, ← hY2, ← hU, ← hY] at i1 i2
    have hUle : pw ((l : Int) - 1074) ≤ mg m p * pw (-52) + pw (-1074) := by
      have hp1 := pw_pos (-1074)
      have hp2 := pw_pos (-52)
      have hnn := mg_nonneg m p
      by_cases hc : p + m.log2 - 52 ≤ -1074
      · rw [show (l : Int) - 1074 = -1074 by omega]
        have := Rat.mul_nonneg hnn (Rat.le_of_lt hp2)
        grind
      · rw [show (l : Int) - 1074 = (p + m.log2) + -52 by omega, pw_add]
        have := Rat.mul_le_mul_of_nonneg_right hlog (Rat.le_of_lt hp2)
        grind
    have e52 : pw (-52) = pw (-53) * 2 := by rw [show (-52 : Int) = -53 + 1 from rfl, pw_add]; congr 1
    have e74 : pw (-1074) = pw (-1075) * 2 := by rw [show (-1074 : Int) = -1075 + 1 from rfl, pw_add]; congr 1
    constructor
    · unfold bd
      rw [e52, e74] at hUle
      grind
    · intro n hn hlt
      -- the unit is at most 1
      have hu0 : (l : Int) - 1074 ≤ 0 := by
        have h1 : (n : Rat) < pw 53 := by
          have : pw 53 = ((2 ^ 53 : Nat) : Rat) := pw_nat 53
          rw [this]
          exact Rat.natCast_lt_natCast.2 (by omega)
        have h2 : pw (p + m.log2) < pw 53 := by grind
        have := pw_lt h2
        omega
      obtain ⟨k, hkk⟩ : ∃ k : Nat, (l : Int) - 1074 + k = 0 := ⟨(1074 - (l : Int)).toNat, by omega⟩
      have hN : (n : Rat) = mg (n * 2 ^ k) ((l : Int) - 1074) := by
        rw [mg_up, hkk]; unfold mg; rw [pw_zero]; grind
      have hU1 : pw ((l : Int) - 1074) = mg 1 ((l : Int) - 1074) := (mg_one _).symm
      rw [hn, hY, hN, hU1] at i1 i2
      rw [hY, hN]
      have hpos := pw_pos ((l : Int) - 1074)
      have hcancel : ∀ a b : Nat, mg a ((l : Int) - 1074) ≤ mg b ((l : Int) - 1074) → a ≤ b := by
        intro a b hab
        unfold mg at hab
        have := Rat.le_of_mul_le_mul_right hab hpos
        exact Rat.natCast_le_natCast.1 this
      rw [← mg_two, ← mg_two, ← mg_add] at i1
      rw [← mg_two, ← mg_two, ← mg_add] at i2
      have j1 := hcancel _ _ i1
      have j2 := hcancel _ _ i2
      rw [show kept = n * 2 ^ k by omega]

end Go.Proofs.Ybulkbfeq.Fl
