/- zzs2811cpick: the number at place i mod len, as a float; 0 of an empty slice. -/
import Derived.Test.YbulkbfeqSmall
import Derived.Test.YbulkbfeqBoxPlain
namespace Go.Proofs.Ybulkbfeq
open Go.RowKit
attribute [local go_sem] run_store_float
set_option linter.unusedVariables false

set_option maxHeartbeats 400000 in
theorem pick_none (a : Option Addr) (cap i : Nat) (w : World) :
    Calls Yba.prog 5 #[.slice a 0 cap, .int .i64 (i : Int)] w fun e w' => e = .returned (FV 0) ∧ w = w' := by
  go_enter Yba.func5, Yba.ntmps5
  go_wp2
  go_ret
  exact ⟨rfl, rfl⟩

set_option maxHeartbeats 400000 in
theorem pick_some (b off len cap i : Nat) (z : Int) (w : World) (hl : 0 < len) (hm : len ≤ maxLen) (hi : i ≤ 100) (hc : w.cell? ⟨b, off + i % len, none⟩ = some (.int .i32 z)) :
    Calls Yba.prog 5 #[.slice (some ⟨b, off, none⟩) len cap, .int .i64 (i : Int)] w fun e w' => e = .returned (FV (floatOfInt .f64 z)) ∧ w = w' := by
  unfold maxLen at hm
  have h0 : ((len : Int) == 0) = false := by simp; omega
  have h1 : (i : Int) % (len : Int) < (len : Int) := Int.emod_lt_of_pos _ (by omega)
  have h2 : (0 : Int) ≤ (i : Int) % (len : Int) := Int.emod_nonneg _ (by omega)
  go_enter Yba.func5, Yba.ntmps5
  go_wp2
  go_ret
  exact ⟨rfl, rfl⟩

/-- What a slice of int32 that came in gives at places 0 .. D - 1. -/
def PickOk (w : World) (base D : Nat) (a : Option Addr) (len : Nat) (P : Nat → Nat) : Prop :=
  (len = 0 ∧ ∀ i, P i = 0) ∨ (0 < len ∧ len ≤ maxLen ∧ ∃ b off, a = some ⟨b, off, none⟩ ∧ b < base ∧ ∀ i, i < D → ∃ z : Int, w.cell? ⟨b, off + i % len, none⟩ = some (.int .i32 z) ∧ P i = floatOfInt .f64 z)

theorem pick_any {w0 w : World} {base D : Nat} {a : Option Addr} {len cap : Nat} {P : Nat → Nat} (h : PickOk w0 base D a len P) (hb : Below base w0 w) (i : Nat) (hi : i < D) (hD : D ≤ 100) :
    Calls Yba.prog 5 #[.slice a len cap, .int .i64 (i : Int)] w fun e w' => e = .returned (FV (P i)) ∧ w = w' := by
  rcases h with ⟨rfl, h⟩ | ⟨h0, h1, b, off, rfl, hbb, h⟩
  · rw [h i]; exact pick_none a cap i w
  · obtain ⟨z, hc, hz⟩ := h i hi
    rw [hz]
    exact pick_some b off len cap i z w h0 h1 (by omega) ((hb.cell (p := ⟨b, off + i % len, none⟩) hbb).trans hc)

/-- What the law makes of 'sel'. -/
def SelOk (w : World) (base D : Nat) (a : Option Addr) (len : Nat) (C : Nat → Nat) : Prop :=
  (len = 0 ∧ ∀ r, r < D → C r = r) ∨ (0 < len ∧ len ≤ maxLen ∧ ∃ b off, a = some ⟨b, off, none⟩ ∧ b < base ∧ ∀ r, r < D → ∃ z : Nat, w.cell? ⟨b, off + r % len, none⟩ = some (.int .u8 (z : Int)) ∧ z ≤ 255 ∧ C r = z % (2 * D))
theorem SelOk.lt {w : World} {base D : Nat} {a : Option Addr} {len : Nat} {C : Nat → Nat} (h : SelOk w base D a len C) : ∀ r, r < D → C r < 2 * D := by
  intro r hr
  rcases h with ⟨_, h⟩ | ⟨_, _, b, off, _, _, h⟩
  · rw [h r hr]; omega
  · obtain ⟨z, _, _, hz⟩ := h r hr
    rw [hz]; exact Nat.mod_lt _ (by omega)

/-! ### Which axes have been seen -/
def seenB (C : Nat → Nat) : Nat → Nat → Bool
  | 0, _ => false
  | k + 1, a => seenB C k a || (C k / 2 == a)
def dupB (C : Nat → Nat) : Nat → Bool
  | 0 => false
  | k + 1 => dupB C k || seenB C k (C k / 2)
theorem seenB_iff (C : Nat → Nat) (k a : Nat) : seenB C k a = true ↔ ∃ r, r < k ∧ C r / 2 = a := by
  induction k with
  | zero => simp [seenB]
  | succ k ih =>
    simp only [seenB, Bool.or_eq_true, ih, beq_iff_eq]
    constructor
    · rintro (⟨r, h1, h2⟩ | h)
      · exact ⟨r, by omega, h2⟩
      · exact ⟨k, by omega, h⟩
    · rintro ⟨r, h1, h2⟩
      rcases Nat.lt_succ_iff_lt_or_eq.1 h1 with h | h
      · exact .inl ⟨r, h, h2⟩
      · subst h; exact .inr h2
theorem dupB_iff (C : Nat → Nat) (k : Nat) : dupB C k = true ↔ Dup k C := by
  induction k with
  | zero =>
    simp only [dupB, Bool.false_eq_true, false_iff]
    rintro ⟨r, s, h1, h2, _⟩
    omega
  | succ k ih =>
    simp only [dupB, Bool.or_eq_true, ih, seenB_iff]
    constructor
    · rintro (⟨r, s, h1, h2, h3⟩ | ⟨r, h1, h2⟩)
      · exact ⟨r, s, h1, by omega, h3⟩
      · exact ⟨r, k, h1, by omega, h2⟩
    · rintro ⟨r, s, h1, h2, h3⟩
      rcases Nat.lt_succ_iff_lt_or_eq.1 h2 with h | h
      · exact .inl ⟨r, s, h1, h, h3⟩
      · subst h; exact .inr ⟨r, h1, h3⟩
theorem seen_step (C : Nat → Nat) (k i : Nat) : (if i = C k / 2 then Value.bool true else .bool (seenB C k i)) = .bool (seenB C (k + 1) i) := by
  simp only [seenB]
  by_cases h : i = C k / 2
  · rw [if_pos h]
    have : (C k / 2 == i) = true := by simp [h]
    rw [this, Bool.or_true]
  · rw [if_neg h]
    have : (C k / 2 == i) = false := by simp; exact fun h' => h h'.symm
    rw [this, Bool.or_false]

/-! ### The floats that come of int32 -/
theorem whole_pick {w : World} {base D : Nat} {a : Option Addr} {len : Nat} {P : Nat → Nat} (h : PickOk w base D a len P) (hz : ∀ b off i (z : Int), w.cell? ⟨b, off + i, none⟩ = some (.int .i32 z) → a = some ⟨b, off, none⟩ → i < len → -2147483648 ≤ z ∧ z ≤ 2147483647) (i : Nat) (hi : i < D) : Whole (P i) := by
  rcases h with ⟨_, h⟩ | ⟨h0, _, b, off, ha, _, h⟩
  · rw [h i]
    exact ⟨Fl.zero_ok.1, 0, Fl.zero_ok.2, by omega, by omega⟩
  · obtain ⟨z, hc, e⟩ := h i hi
    have hb := hz b off (i % len) z hc ha (Nat.mod_lt _ h0)
    obtain ⟨n1, n2⟩ := Fl.int_ok z (by omega) (by omega)
    rw [e]
    exact ⟨n1, z, n2, by omega, by omega⟩
theorem neg_num {x : Nat} (h : Fl.IsNum x) : Fl.IsNum (fneg x) := by
  obtain ⟨s, m, p, h⟩ := h
  have e1 : fneg x % 9223372036854775808 = x % 9223372036854775808 := by
    have e : fneg x = x ^^^ 2 ^ 63 := rfl
    rw [e, show (9223372036854775808 : Nat) = 2 ^ 63 from rfl, Nat.xor_mod_two_pow, Nat.mod_self, Nat.xor_zero]
  unfold Fl.IsNum
  unfold Ieee.Format.read at h ⊢
  simp only [Fl.f_binade, Fl.f_inf, Fl.f_sign, Fl.f_least] at h ⊢
  rw [e1]
  split at h
  · rename_i g; rw [if_pos g]; exact ⟨_, _, _, rfl⟩
  · rename_i g; rw [if_neg g]
    split at h
    · rename_i g2; rw [if_pos g2]; exact ⟨_, _, _, rfl⟩
    · split at h <;> cases h
theorem ne_num {x : Nat} (h : Fl.IsNum x) : fne x x = false := (Fl.fne_false x x h h).2 rfl

end Go.Proofs.Ybulkbfeq
