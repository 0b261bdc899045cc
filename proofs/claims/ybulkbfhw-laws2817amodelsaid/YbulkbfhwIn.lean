/- What LawS2817AModel makes of its arguments: the starts, the labels. -/
import Derived.Test.YbulkbfhwKept
namespace Go.Proofs.Ybulkbfhw
open Go.RowKit
set_option linter.unusedVariables false

/-- The starts: each key has 1 + c arcs. -/
def stF (c : Nat → Nat) : Nat → Int
  | 0 => 0
  | k + 1 => stF c k + (1 + (c k : Int))
theorem stF_mono (c : Nat → Nat) (a b : Nat) (h : a < b) : stF c a < stF c b := by
  induction b with
  | zero => omega
  | succ b ih =>
    have e : stF c (b + 1) = stF c b + (1 + (c b : Int)) := rfl
    rcases Nat.lt_or_ge a b with g | g
    · have := ih g; omega
    · have : a = b := by omega
      subst this; omega
theorem stF_nonneg (c : Nat → Nat) (k : Nat) : 0 ≤ stF c k := by
  induction k with
  | zero => exact Int.le_refl _
  | succ k ih => have e : stF c (k + 1) = stF c k + (1 + (c k : Int)) := rfl; omega
theorem stF_le (c : Nat → Nat) (hc : ∀ k, c k ≤ 3) (k : Nat) : stF c k ≤ 4 * (k : Int) := by
  induction k with
  | zero => exact Int.le_refl _
  | succ k ih => have e : stF c (k + 1) = stF c k + (1 + (c k : Int)) := rfl; have := hc k; omega

/-- What the law makes of 'counts'. -/
def CntOk (w : World) (base : Nat) (a : Option Addr) (len K : Nat) (c : Nat → Nat) : Prop :=
  (∀ k, c k ≤ 3) ∧ ((len = 0 ∧ K = 1 ∧ c 0 = 0) ∨ (0 < len ∧ K = len ∧ ∃ b off, a = some ⟨b, off, none⟩ ∧ b < base ∧ ∀ k, k < len → ∃ z : Nat, w.cell? ⟨b, off + k, none⟩ = some (.int .u8 (z : Int)) ∧ z ≤ 255 ∧ c k = z % 4))
/-- What the law makes of 'raw'. -/
def RawOk (w : World) (base : Nat) (a : Option Addr) (n m : Nat) (lab : Nat → Int) : Prop :=
  n = 0 ∨ ∃ b off, a = some ⟨b, off, none⟩ ∧ b < base ∧ ∀ k, k < n → ∃ z : Nat, w.cell? ⟨b, off + k, none⟩ = some (.int .u16 (z : Int)) ∧ z ≤ 65535 ∧ lab k = (z : Int) % (m : Int)

theorem CntOk.below {w w' : World} {B : Nat} {a : Option Addr} {len K : Nat} {c : Nat → Nat} (h : CntOk w B a len K c) (hb : Below B w w') : CntOk w' B a len K c := by
  refine ⟨h.1, ?_⟩
  rcases h.2 with g | ⟨h0, h1, b, off, ha, hbb, hz⟩
  · exact .inl g
  · refine .inr ⟨h0, h1, b, off, ha, hbb, fun k hk => ?_⟩
    obtain ⟨z, h2, h3⟩ := hz k hk
    exact ⟨z, (hb.cell (p := ⟨b, off + k, none⟩) hbb).trans h2, h3⟩
theorem RawOk.below {w w' : World} {B : Nat} {a : Option Addr} {n m : Nat} {lab : Nat → Int} (h : RawOk w B a n m lab) (hb : Below B w w') : RawOk w' B a n m lab := by
  rcases h with g | ⟨b, off, ha, hbb, hz⟩
  · exact .inl g
  · refine .inr ⟨b, off, ha, hbb, fun k hk => ?_⟩
    obtain ⟨z, h2, h3⟩ := hz k hk
    exact ⟨z, (hb.cell (p := ⟨b, off + k, none⟩) hbb).trans h2, h3⟩

end Go.Proofs.Ybulkbfhw
