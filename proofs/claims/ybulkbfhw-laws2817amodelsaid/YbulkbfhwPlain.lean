/- The plain side of LawS2817AModel: the last start that is not beyond j; which label goes on with the run of the label before it; the runs. No Go in sight. -/
import Derived.Test.YbulkbfhwChecked
namespace Go.Proofs.Ybulkbfhw
set_option linter.unusedVariables false

/-- The last place below k whose start is at most j; -1: there is none. -/
def lastLE (st : Nat → Int) (j : Int) : Nat → Int
  | 0 => -1
  | k + 1 => if st k ≤ j then (k : Int) else lastLE st j k

theorem lastLE_lo (st : Nat → Int) (j : Int) (k : Nat) : -1 ≤ lastLE st j k ∧ lastLE st j k < (k : Int) := by
  induction k with
  | zero => simp [lastLE]
  | succ k ih =>
    unfold lastLE
    split
    · omega
    · omega
theorem lastLE_at (st : Nat → Int) (j : Int) (k : Nat) (h : 0 ≤ lastLE st j k) : st (lastLE st j k).toNat ≤ j := by
  induction k with
  | zero => simp [lastLE] at h
  | succ k ih =>
    unfold lastLE at h ⊢
    split
    · rename_i g; simpa using g
    · rename_i g
      rw [if_neg g] at h
      exact ih h
theorem lastLE_split (st : Nat → Int) (j : Int) (K r : Nat) (hr : r ≤ K) (h1 : ∀ x, x < r → st x ≤ j) (h2 : ∀ x, r ≤ x → x < K → j < st x) : lastLE st j K = (r : Int) - 1 := by
  induction K with
  | zero =>
    have : r = 0 := by omega
    subst this; rfl
  | succ K ih =>
    unfold lastLE
    by_cases hrK : r = K + 1
    · rw [if_pos (h1 K (by omega))]; omega
    · have := h2 K (by omega) (by omega)
      rw [if_neg (by omega)]
      exact ih (by omega) (fun x hx hk => h2 x hx (by omega))
theorem lastLE_nonneg (st : Nat → Int) (j : Int) (K : Nat) (hK : 0 < K) (h0 : st 0 ≤ j) : 0 ≤ lastLE st j K := by
  induction K with
  | zero => omega
  | succ K ih =>
    unfold lastLE
    split
    · omega
    · rename_i g
      by_cases hk : K = 0
      · subst hk; exact absurd h0 g
      · exact ih (by omega)

section
variable (st : Nat → Int) (K : Nat) (ex : Int) (lab : Nat → Int) (n : Nat)

/-- The label at i goes on with the run of the label cyclically before it. -/
def folB (i : Nat) : Bool :=
  (decide (ex ≤ lab i) && decide (ex ≤ lab ((i + n - 1) % n))) && (decide (lab i = lab ((i + n - 1) % n) + 1) && (lastLE st (lab i - ex) K == lastLE st (lab ((i + n - 1) % n) - ex) K))

theorem folB_iff (i : Nat) : folB st K ex lab n i = true ↔ (ex ≤ lab i ∧ ex ≤ lab ((i + n - 1) % n)) ∧ lab i = lab ((i + n - 1) % n) + 1 ∧ lastLE st (lab i - ex) K = lastLE st (lab ((i + n - 1) % n) - ex) K := by
  simp [folB]

theorem prev_zero (hn : 0 < n) : (0 + n - 1) % n = n - 1 := by rw [Nat.zero_add]; exact Nat.mod_eq_of_lt (by omega)
theorem prev_pos (i : Nat) (h0 : 0 < i) (hi : i < n) : (i + n - 1) % n = i - 1 := by
  have : i + n - 1 = i - 1 + n := by omega
  rw [this, Nat.add_mod_right]; exact Nat.mod_eq_of_lt (by omega)

/-- Not every label goes on with the one before it: round the circle they would grow for ever. -/
theorem not_all (hn : 0 < n) : ¬ ∀ i, i < n → folB st K ex lab n i = true := by
  intro h
  have g : ∀ i, i < n → lab i = lab 0 + (i : Int) := by
    intro i
    induction i with
    | zero => intro _; simp
    | succ i ih =>
      intro hi
      have := ((folB_iff st K ex lab n (i + 1)).1 (h (i + 1) hi)).2.1
      rw [prev_pos n (i + 1) (by omega) hi] at this
      simp only [Nat.add_sub_cancel] at this
      rw [this, ih (by omega)]; omega
  have h0 := ((folB_iff st K ex lab n 0).1 (h 0 hn)).2.1
  rw [prev_zero n hn, g (n - 1) (by omega)] at h0
  omega

/-- Where the walk round the circle starts. -/
def Start (s : Nat) : Prop := s ≤ n ∧ (∀ i, i < s → folB st K ex lab n i = true) ∧ (s < n → folB st K ex lab n s = false)
theorem Start.lt {s : Nat} (h : Start st K ex lab n s) (hn : 0 < n) : s < n := by
  rcases Nat.lt_or_ge s n with g | g
  · exact g
  · exact absurd (fun i hi => h.2.1 i (by omega)) (not_all st K ex lab n hn)
theorem Start.one {s t : Nat} (h : Start st K ex lab n s) (k : Start st K ex lab n t) : s = t := by
  rcases Nat.lt_trichotomy s t with g | g | g
  · have := h.2.2 (by have := k.1; omega)
    rw [k.2.1 s g] at this; cases this
  · exact g
  · have := k.2.2 (by have := h.1; omega)
    rw [h.2.1 t g] at this; cases this

/-- A run: its key, its first place, its last. -/
abbrev Run := Int × Int × Int
def bump (R : List Run) : List Run :=
  match R.reverse with
  | [] => []
  | x :: t => t.reverse ++ [(x.1, x.2.1, IntKind.i32.wrap (x.2.2 + 1))]
theorem bump_concat (R : List Run) (k f l : Int) : bump (R ++ [(k, f, l)]) = R ++ [(k, f, IntKind.i32.wrap (l + 1))] := by simp [bump]
theorem bump_ne (R : List Run) (h : R ≠ []) : bump R ≠ [] := by
  rcases List.eq_nil_or_concat R with e | ⟨L, b, e⟩
  · exact absurd e h
  · obtain ⟨k, f, l⟩ := b
    rw [e, List.concat_eq_append, bump_concat]
    simp
theorem bump_length (R : List Run) : (bump R).length = R.length := by
  rcases List.eq_nil_or_concat R with e | ⟨L, b, e⟩
  · subst e; rfl
  · obtain ⟨k, f, l⟩ := b
    rw [e, List.concat_eq_append, bump_concat]; simp

def keyR (i : Nat) : Int := lastLE st (lab i - ex) K
def placeR (i : Nat) : Int := lab i - ex - st (lastLE st (lab i - ex) K).toNat
def stepR (R : List Run) (i : Nat) : List Run :=
  if lab i < ex then R else if folB st K ex lab n i then bump R else R ++ [(keyR st K ex lab i, placeR st K ex lab i, placeR st K ex lab i + 1)]
def runsTo (s : Nat) : Nat → List Run
  | 0 => []
  | c + 1 => stepR st K ex lab n (runsTo s c) ((s + c) % n)

theorem runsTo_length (s c : Nat) : (runsTo st K ex lab n s c).length ≤ c := by
  induction c with
  | zero => simp [runsTo]
  | succ c ih =>
    unfold runsTo stepR
    split
    · omega
    · split
      · rw [bump_length]; omega
      · simp; omega

theorem prev_step (s c : Nat) (hn : 0 < n) : ((s + (c + 1)) % n + n - 1) % n = (s + c) % n := by
  have h1 : (s + (c + 1)) % n + n - 1 = (s + (c + 1)) % n + (n - 1) := by omega
  rw [h1, Nat.mod_add_mod]
  have h2 : s + (c + 1) + (n - 1) = s + c + n := by omega
  rw [h2, Nat.add_mod_right]

/-- Where a label goes on with a run there is a run. -/
theorem runs_ne {s : Nat} (hs : Start st K ex lab n s) (hn : 0 < n) (c : Nat) (h : folB st K ex lab n ((s + c) % n) = true) : runsTo st K ex lab n s c ≠ [] := by
  have hlt := hs.lt st K ex lab n hn
  induction c with
  | zero =>
    rw [Nat.add_zero, Nat.mod_eq_of_lt hlt, hs.2.2 hlt] at h
    cases h
  | succ c ih =>
    have hb := ((folB_iff st K ex lab n _).1 h).1.2
    rw [prev_step n s c hn] at hb
    unfold runsTo stepR
    rw [if_neg (by omega)]
    split
    · rename_i g; exact bump_ne _ (ih g)
    · simp

end
end Go.Proofs.Ybulkbfhw
