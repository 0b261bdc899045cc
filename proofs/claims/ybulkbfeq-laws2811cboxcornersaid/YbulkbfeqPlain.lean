/-
  PLAIN FUNCTIONS (no Go in sight but the float words of the model): what each step of (*simplex).begin does to the matrix a = [N | I], told as a function from places to float64 words. D: the dimension; a row takes 2 * D places.
-/
import Ieee.Arith
import Derived.Laws.FloatArith
import Derived.Deep.OwnRows
namespace Go.Proofs.Ybulkbfeq
open Go

abbrev FV (x : Nat) : Value := .float .f64 x

def fdiv (x y : Nat) : Nat := (Ieee.double.div x y).getD 0
def fmul (x y : Nat) : Nat := (Ieee.double.mul x y).getD 0
def fsub (x y : Nat) : Nat := (Ieee.double.sub x y).getD 0
def fadd (x y : Nat) : Nat := (Ieee.double.add x y).getD 0
def fneg (x : Nat) : Nat := Op.negFloat .f64 x
def fabs (x : Nat) : Nat := x % 2 ^ 63
def fgt (x y : Nat) : Bool := Ieee.double.order x y == some .gt
def flt (x y : Nat) : Bool := Ieee.double.order x y == some .lt
def fne (x y : Nat) : Bool := Ieee.double.order x y != some .eq

theorem run_store_float {P : Program} {w : World} {a : Addr} {m : Mode} (k : FloatKind) (x : Nat) : (store a (.float k x) m).run P w = stored P w a (.float k x) m := run_store P w a _ m rfl
attribute [local go_sem] run_store_float

theorem run_fdiv {P : Program} (t : TypeId) (x y : Nat) (h : (Ieee.double.div x y).isSome = true) (w : World) : (binOp .quo t (FV x) (FV y)).run P w = .ok (FV (fdiv x y)) w := by
  obtain ⟨r, hr⟩ := Option.isSome_iff_exists.1 h
  have := run_float_arith (P := P) w .quo t .f64 x y r hr
  rw [this]; unfold fdiv; rw [hr]; rfl
theorem run_fmul {P : Program} (t : TypeId) (x y : Nat) (h : (Ieee.double.mul x y).isSome = true) (w : World) : (binOp .mul t (FV x) (FV y)).run P w = .ok (FV (fmul x y)) w := by
  obtain ⟨r, hr⟩ := Option.isSome_iff_exists.1 h
  have := run_float_arith (P := P) w .mul t .f64 x y r hr
  rw [this]; unfold fmul; rw [hr]; rfl
theorem run_fsub {P : Program} (t : TypeId) (x y : Nat) (h : (Ieee.double.sub x y).isSome = true) (w : World) : (binOp .sub t (FV x) (FV y)).run P w = .ok (FV (fsub x y)) w := by
  obtain ⟨r, hr⟩ := Option.isSome_iff_exists.1 h
  have := run_float_arith (P := P) w .sub t .f64 x y r hr
  rw [this]; unfold fsub; rw [hr]; rfl
theorem run_fadd {P : Program} (t : TypeId) (x y : Nat) (h : (Ieee.double.add x y).isSome = true) (w : World) : (binOp .add t (FV x) (FV y)).run P w = .ok (FV (fadd x y)) w := by
  obtain ⟨r, hr⟩ := Option.isSome_iff_exists.1 h
  have := run_float_arith (P := P) w .add t .f64 x y r hr
  rw [this]; unfold fadd; rw [hr]; rfl

/-! ### The steps on the matrix -/

/-- Rows c and p exchanged. -/
def swapF (D c p : Nat) (A : Nat → Nat) (i : Nat) : Nat :=
  if i / (2 * D) = c then A (p * 2 * D + i % (2 * D)) else if i / (2 * D) = p then A (c * 2 * D + i % (2 * D)) else A i
/-- .. the first j columns. -/
def swapJ (D c p j : Nat) (A : Nat → Nat) (i : Nat) : Nat := if i % (2 * D) < j then swapF D c p A i else A i
/-- Row c divided by f, its first j places. -/
def divJ (D c f j : Nat) (A : Nat → Nat) (i : Nat) : Nat := if i / (2 * D) = c ∧ i % (2 * D) < j then fdiv (A i) f else A i
/-- g times row c taken off row r, its first j places. -/
def subJ (D c r g j : Nat) (A : Nat → Nat) (i : Nat) : Nat := if i / (2 * D) = r ∧ i % (2 * D) < j then fsub (A i) (fmul g (A (c * 2 * D + i % (2 * D)))) else A i
/-- .. off every row below k that wants it. -/
def elimR (D c k : Nat) (A : Nat → Nat) (i : Nat) : Nat :=
  if i / (2 * D) < k ∧ i / (2 * D) ≠ c ∧ fne (A (i / (2 * D) * 2 * D + c)) 0 = true then fsub (A i) (fmul (A (i / (2 * D) * 2 * D + c)) (A (c * 2 * D + i % (2 * D)))) else A i
/-- The pivot's row among c, c + 1, .., c + k. -/
def pivN (D c : Nat) (A : Nat → Nat) : Nat → Nat
  | 0 => c
  | k + 1 => if fgt (fabs (A ((c + 1 + k) * 2 * D + c))) (fabs (A (pivN D c A k * 2 * D + c))) = true then c + 1 + k else pivN D c A k
def pivF (D c : Nat) (A : Nat → Nat) : Nat := pivN D c A (D - 1 - c)
def sing (D c : Nat) (A : Nat → Nat) : Bool := flt (fabs (A (pivF D c A * 2 * D + c))) 4427486594234968593
def midF (D c : Nat) (A : Nat → Nat) : Nat → Nat := swapF D c (pivF D c A) A
def normF (D c : Nat) (A : Nat → Nat) : Nat → Nat := divJ D c (midF D c A (c * 2 * D + c)) (2 * D) (midF D c A)
def colF (D c : Nat) (A : Nat → Nat) : Nat → Nat := elimR D c D (normF D c A)
def colsF (D : Nat) (A : Nat → Nat) : Nat → Nat → Nat
  | 0 => A
  | c + 1 => colF D c (colsF D A c)
def okDiv (D c f : Nat) (A : Nat → Nat) : Prop := ∀ j, j < 2 * D → (Ieee.double.div (A (c * 2 * D + j)) f).isSome = true
def okSub (D c r g : Nat) (A : Nat → Nat) : Prop := ∀ j, j < 2 * D → (Ieee.double.mul g (A (c * 2 * D + j))).isSome = true ∧ (Ieee.double.sub (A (r * 2 * D + j)) (fmul g (A (c * 2 * D + j)))).isSome = true
def okCol (D c : Nat) (A : Nat → Nat) : Prop :=
  okDiv D c (midF D c A (c * 2 * D + c)) (midF D c A) ∧ ∀ r, r < D → r ≠ c → fne (normF D c A (r * 2 * D + c)) 0 = true → okSub D c r (normF D c A (r * 2 * D + c)) (normF D c A)
/-- The right half, its first r rows, over what I held. -/
def invJ (D r : Nat) (A I : Nat → Nat) (i : Nat) : Nat := if i / D < r then A (i / D * 2 * D + D + i % D) else I i
def sumN (D j : Nat) (I W : Nat → Nat) : Nat → Nat
  | 0 => 0
  | i + 1 => fadd (sumN D j I W i) (fmul (I (i * D + j)) (W i))
def okSum (D j : Nat) (I W : Nat → Nat) : Prop := ∀ i, i < D → (Ieee.double.mul (I (i * D + j)) (W i)).isSome = true ∧ (Ieee.double.add (sumN D j I W i) (fmul (I (i * D + j)) (W i))).isSome = true
/-- The multipliers, the first j of them, over what V held. -/
def wtJ (D j : Nat) (I W V : Nat → Nat) (i : Nat) : Nat := if i < j then sumN D i I W D else V i

/-! ### Places -/
theorem place_div (D r j : Nat) (hj : j < 2 * D) : (r * 2 * D + j) / (2 * D) = r := by
  have : r * 2 * D + j = j + 2 * D * r := by rw [Nat.mul_assoc, Nat.mul_comm r, Nat.add_comm]
  rw [this, Nat.add_mul_div_left _ _ (by omega), Nat.div_eq_of_lt hj, Nat.zero_add]
theorem place_mod (D r j : Nat) (hj : j < 2 * D) : (r * 2 * D + j) % (2 * D) = j := by
  have : r * 2 * D + j = j + 2 * D * r := by rw [Nat.mul_assoc, Nat.mul_comm r, Nat.add_comm]
  rw [this, Nat.add_mul_mod_self_left, Nat.mod_eq_of_lt hj]
theorem place_eq (D i : Nat) : i / (2 * D) * 2 * D + i % (2 * D) = i := by
  have := Nat.div_add_mod i (2 * D)
  have e : i / (2 * D) * 2 * D = 2 * D * (i / (2 * D)) := by rw [Nat.mul_assoc, Nat.mul_comm]
  omega
theorem place_lt (D r j : Nat) (hr : r < D) (hj : j < 2 * D) : r * 2 * D + j < 2 * D * D := by
  have e : r * 2 * D = 2 * D * r := by rw [Nat.mul_assoc, Nat.mul_comm]
  have : 2 * D * r + 2 * D ≤ 2 * D * D := by
    have := Nat.mul_le_mul_left (2 * D) (show r + 1 ≤ D from hr)
    rw [Nat.mul_add] at this; omega
  omega

/-! ### A step of each inner loop, as a store into the row -/
theorem div_step {w : World} {N t : Nat} (D c f j : Nat) (A : Nat → Nat) (hj : j < 2 * D) {n : Nat} (h : w.rowIs N t n fun i => FV (divJ D c f j A i)) :
    (w.setCell ⟨N, c * 2 * D + j, none⟩ (FV (fdiv (A (c * 2 * D + j)) f))).rowIs N t n fun i => FV (divJ D c f (j + 1) A i) := by
  refine (h.set (c * 2 * D + j) _).congr fun i _ => ?_
  by_cases e : i = c * 2 * D + j
  · subst e
    simp only [if_true, divJ, place_div D c j hj, place_mod D c j hj]
    simp
  · have hp := place_eq D i
    simp only [if_neg e, divJ]
    congr 1
    by_cases h1 : i / (2 * D) = c
    · rw [h1] at hp
      have : i % (2 * D) ≠ j := fun h2 => e (by rw [← hp, h2])
      simp only [h1, true_and]
      congr 1
      apply propext
      omega
    · simp [h1]

theorem swap_step {w : World} {N t : Nat} (D c p j : Nat) (A : Nat → Nat) (hj : j < 2 * D) {n : Nat} (h : w.rowIs N t n fun i => FV (swapJ D c p j A i)) :
    ((w.setCell ⟨N, c * 2 * D + j, none⟩ (FV (A (p * 2 * D + j)))).setCell ⟨N, p * 2 * D + j, none⟩ (FV (A (c * 2 * D + j)))).rowIs N t n fun i => FV (swapJ D c p (j + 1) A i) := by
  refine ((h.set (c * 2 * D + j) _).set (p * 2 * D + j) _).congr fun i _ => ?_
  by_cases e : i = p * 2 * D + j
  · subst e
    simp only [if_true, swapJ, swapF, place_div D p j hj, place_mod D p j hj]
    by_cases hpc : p = c
    · subst hpc; simp
    · simp [hpc]
  · by_cases e2 : i = c * 2 * D + j
    · subst e2
      simp only [if_neg e, if_true, swapJ, swapF, place_div D c j hj, place_mod D c j hj]
      simp
    · have hp := place_eq D i
      simp only [if_neg e, if_neg e2, swapJ]
      congr 1
      by_cases h1 : i % (2 * D) = j
      · have n1 : i / (2 * D) ≠ c := fun h2 => e2 (by rw [← hp, h1, h2])
        have n2 : i / (2 * D) ≠ p := fun h2 => e (by rw [← hp, h1, h2])
        simp [h1, swapF, n1, n2]
      · congr 1
        apply propext
        omega

theorem sub_step {w : World} {N t : Nat} (D c r g j : Nat) (A : Nat → Nat) (hj : j < 2 * D) {n : Nat} (h : w.rowIs N t n fun i => FV (subJ D c r g j A i)) :
    (w.setCell ⟨N, r * 2 * D + j, none⟩ (FV (fsub (A (r * 2 * D + j)) (fmul g (A (c * 2 * D + j)))))).rowIs N t n fun i => FV (subJ D c r g (j + 1) A i) := by
  refine (h.set (r * 2 * D + j) _).congr fun i _ => ?_
  by_cases e : i = r * 2 * D + j
  · subst e
    simp only [if_true, subJ, place_div D r j hj, place_mod D r j hj]
    simp
  · have hp := place_eq D i
    simp only [if_neg e, subJ]
    congr 1
    by_cases h1 : i / (2 * D) = r
    · rw [h1] at hp
      have : i % (2 * D) ≠ j := fun h2 => e (by rw [← hp, h2])
      simp only [h1, true_and]
      congr 1
      apply propext
      omega
    · simp [h1]

theorem divJ_at (D c f j : Nat) (A : Nat → Nat) (hj : j < 2 * D) : divJ D c f j A (c * 2 * D + j) = A (c * 2 * D + j) := by
  simp [divJ, place_mod D c j hj]
theorem swapJ_at (D c p j r : Nat) (A : Nat → Nat) (hj : j < 2 * D) : swapJ D c p j A (r * 2 * D + j) = A (r * 2 * D + j) := by
  simp [swapJ, place_mod D r j hj]
theorem subJ_at (D c r g j q : Nat) (A : Nat → Nat) (hj : j < 2 * D) : subJ D c r g j A (q * 2 * D + j) = A (q * 2 * D + j) := by
  simp [subJ, place_mod D q j hj]
theorem divJ_zero (D c f : Nat) (A : Nat → Nat) (i : Nat) : divJ D c f 0 A i = A i := by simp [divJ]
theorem swapJ_zero (D c p : Nat) (A : Nat → Nat) (i : Nat) : swapJ D c p 0 A i = A i := by simp [swapJ]
theorem subJ_zero (D c r g : Nat) (A : Nat → Nat) (i : Nat) : subJ D c r g 0 A i = A i := by simp [subJ]
theorem swapJ_all (D c p : Nat) (hD : 0 < D) (A : Nat → Nat) (i : Nat) : swapJ D c p (2 * D) A i = swapF D c p A i := by
  simp [swapJ, Nat.mod_lt i (show 2 * D > 0 by omega)]
theorem elimR_zero (D c : Nat) (A : Nat → Nat) (i : Nat) : elimR D c 0 A i = A i := by simp [elimR]
/-- Rows at or above k are untouched, and so is row c. -/
theorem elimR_row (D c k r j : Nat) (A : Nat → Nat) (hj : j < 2 * D) (h : k ≤ r ∨ r = c) : elimR D c k A (r * 2 * D + j) = A (r * 2 * D + j) := by
  simp only [elimR, place_div D r j hj]
  rw [if_neg]
  rintro ⟨h1, h2, _⟩
  rcases h with h | h <;> omega
theorem elimR_skip (D c k : Nat) (hc : c < 2 * D) (A : Nat → Nat) (h : k = c ∨ fne (elimR D c k A (k * 2 * D + c)) 0 = false) (i : Nat) : elimR D c (k + 1) A i = elimR D c k A i := by
  rw [elimR_row D c k k c A hc (.inl (Nat.le_refl _))] at h
  simp only [elimR]
  congr 1
  apply propext
  constructor
  · rintro ⟨h1, h2, h3⟩
    refine ⟨?_, h2, h3⟩
    rcases Nat.lt_succ_iff_lt_or_eq.1 h1 with h4 | h4
    · exact h4
    · rw [h4] at h2 h3
      rcases h with h | h
      · exact absurd h h2
      · rw [h] at h3; cases h3
  · rintro ⟨h1, h2, h3⟩; exact ⟨by omega, h2, h3⟩
theorem elimR_do (D c k : Nat) (hD : 0 < D) (hc : c < 2 * D) (A : Nat → Nat) (hk : k ≠ c) (h : fne (elimR D c k A (k * 2 * D + c)) 0 = true) (i : Nat) :
    elimR D c (k + 1) A i = subJ D c k (elimR D c k A (k * 2 * D + c)) (2 * D) (elimR D c k A) i := by
  have hm : i % (2 * D) < 2 * D := Nat.mod_lt i (show 2 * D > 0 by omega)
  rw [elimR_row D c k k c A hc (.inl (Nat.le_refl _))] at h ⊢
  have hrow := elimR_row D c k c (i % (2 * D)) A hm (.inr rfl)
  by_cases e : i / (2 * D) = k
  · have hp := place_eq D i
    rw [e] at hp
    simp only [subJ, e, hm, hrow, and_self, if_true]
    have h0 : elimR D c k A i = A i := by rw [← hp]; exact elimR_row D c k k _ A hm (.inl (Nat.le_refl _))
    rw [h0]
    simp only [elimR, e]
    rw [if_pos ⟨by omega, hk, h⟩]
  · simp only [subJ, e, false_and, if_false]
    simp only [elimR]
    congr 1
    apply propext
    constructor
    · rintro ⟨h1, h2, h3⟩; exact ⟨by omega, h2, h3⟩
    · rintro ⟨h1, h2, h3⟩; exact ⟨by omega, h2, h3⟩
theorem pivN_bd (D c : Nat) (A : Nat → Nat) (k : Nat) : c ≤ pivN D c A k ∧ pivN D c A k ≤ c + k := by
  induction k with
  | zero => simp [pivN]
  | succ k ih =>
    simp only [pivN]
    split <;> omega

/-- A block of a function's body, by its number: what stands in it. -/
def findBlock (n : Nat) : Code → Option Code
  | .block id b => if id = n then some b else findBlock n b
  | .seq a b => match findBlock n a with
    | some c => some c
    | none => findBlock n b
  | .loop c => findBlock n c
  | .scope c => findBlock n c
  | .cond _ a b => match findBlock n a with
    | some c => some c
    | none => findBlock n b
  | _ => none

/-- A region of a function's body, by its number. -/
def findRegion (n : Nat) : Code → Option Code
  | .region id ops d => if id = n then some (.region id ops d) else none
  | .block _ b => findRegion n b
  | .seq a b => match findRegion n a with
    | some c => some c
    | none => findRegion n b
  | .loop c => findRegion n c
  | .scope c => findRegion n c
  | .cond _ a b => match findRegion n a with
    | some c => some c
    | none => findRegion n b
  | _ => none

end Go.Proofs.Ybulkbfeq
