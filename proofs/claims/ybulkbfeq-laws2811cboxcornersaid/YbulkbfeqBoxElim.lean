/-
  THE ELIMINATION OF A MATRIX WHOSE ROWS ARE SIDES OF A BOX, at whatever dimension D: each row is a unit times an axis. What the columns leave; where there is no pivot. (No Go in sight.)
-/
import Derived.Test.YbulkbfeqUnit
namespace Go.Proofs.Ybulkbfeq
open Ieee
attribute [local go_sem] run_store_float
set_option linter.unusedVariables false

def ax (C : Nat → Nat) (r : Nat) : Nat := C r / 2
def sg (C : Nat → Nat) (r : Nat) : Nat := if C r % 2 = 0 then W1 else M1
theorem sg_u (C : Nat → Nat) (r : Nat) : isU (sg C r) := by unfold sg isU; split <;> simp

/-! ### The steps at a place of row r, column j -/
section
variable (D c p f r j : Nat) (A : Nat → Nat)
theorem swap_at (hj : j < 2 * D) : swapF D c p A (r * 2 * D + j) = A ((if r = c then p else if r = p then c else r) * 2 * D + j) := by
  unfold swapF
  rw [place_div D r j hj, place_mod D r j hj]
  by_cases h : r = c
  · rw [if_pos h, if_pos h]
  · rw [if_neg h, if_neg h]
    by_cases h2 : r = p
    · rw [if_pos h2, if_pos h2]
    · rw [if_neg h2, if_neg h2]
theorem div_at (hj : j < 2 * D) : divJ D c f (2 * D) A (r * 2 * D + j) = if r = c then fdiv (A (r * 2 * D + j)) f else A (r * 2 * D + j) := by
  unfold divJ
  rw [place_div D r j hj, place_mod D r j hj]
  by_cases h : r = c
  · rw [if_pos ⟨h, hj⟩, if_pos h]
  · rw [if_neg (fun h' => h h'.1), if_neg h]
theorem elim_at (hj : j < 2 * D) (hr : r < D) : elimR D c D A (r * 2 * D + j) = if r ≠ c ∧ fne (A (r * 2 * D + c)) 0 = true then fsub (A (r * 2 * D + j)) (fmul (A (r * 2 * D + c)) (A (c * 2 * D + j))) else A (r * 2 * D + j) := by
  unfold elimR
  rw [place_div D r j hj, place_mod D r j hj]
  by_cases h : r ≠ c ∧ fne (A (r * 2 * D + c)) 0 = true
  · rw [if_pos ⟨hr, h⟩, if_pos h]
  · rw [if_neg (fun h' => h h'.2), if_neg h]
end

/-! ### What a row may look like -/
def Live (D : Nat) (C A : Nat → Nat) (r o : Nat) : Prop :=
  A (r * 2 * D + ax C o) = sg C o ∧ A (r * 2 * D + (D + o)) = W1 ∧ ∀ j, j < 2 * D → j ≠ ax C o → j ≠ D + o → isZ (A (r * 2 * D + j))
def Done (D : Nat) (C A : Nat → Nat) (r o : Nat) : Prop :=
  A (r * 2 * D + ax C o) = W1 ∧ A (r * 2 * D + (D + o)) = sg C o ∧ ∀ j, j < 2 * D → j ≠ ax C o → j ≠ D + o → isZ (A (r * 2 * D + j))
def Dead (D : Nat) (A : Nat → Nat) (r : Nat) : Prop := (∀ j, j < D → isZ (A (r * 2 * D + j))) ∧ ∀ j, j < 2 * D → isZU (A (r * 2 * D + j))

theorem Live.zu {D : Nat} {C A : Nat → Nat} {r o : Nat} (h : Live D C A r o) (j : Nat) (hj : j < 2 * D) : isZU (A (r * 2 * D + j)) := by
  by_cases h1 : j = ax C o
  · rw [h1, h.1]; exact .inr (sg_u C o)
  · by_cases h2 : j = D + o
    · rw [h2, h.2.1]; exact .inr isU_one
    · exact .inl (h.2.2 j hj h1 h2)
theorem Done.zu {D : Nat} {C A : Nat → Nat} {r o : Nat} (h : Done D C A r o) (j : Nat) (hj : j < 2 * D) : isZU (A (r * 2 * D + j)) := by
  by_cases h1 : j = ax C o
  · rw [h1, h.1]; exact .inr isU_one
  · by_cases h2 : j = D + o
    · rw [h2, h.2.1]; exact .inr (sg_u C o)
    · exact .inl (h.2.2 j hj h1 h2)

/-- Behind c columns: o says which side stands in which row. -/
structure Inv (D c : Nat) (C A o : Nat → Nat) : Prop where
  lt : ∀ r, r < D → o r < D
  inj : ∀ r, r < D → ∀ s, s < D → o r = o s → r = s
  done : ∀ r, r < c → ax C (o r) = r ∧ Done D C A r (o r)
  live : ∀ r, c ≤ r → r < D → c ≤ ax C (o r) → Live D C A r (o r)
  dead : ∀ r, c ≤ r → r < D → ax C (o r) < c → Dead D A r

theorem inv_start (D : Nat) (C : Nat → Nat) (hC : ∀ r, r < D → C r < 2 * D) : Inv D 0 C (fillB D C D) (fun r => r) := by
  refine ⟨fun r hr => hr, fun r _ s _ h => h, fun r hr => by omega, ?_, fun r _ _ h => by omega⟩
  intro r _ hr _
  have hc := hC r hr
  have at_ : ∀ j, j < 2 * D → fillB D C D (r * 2 * D + j) = if j = D + r then 4607182418800017408 else if j = C r / 2 then (if C r % 2 = 0 then 4607182418800017408 else 13830554455654793216) else 0 := by
    intro j hj
    unfold fillB
    rw [place_div D r j hj, place_mod D r j hj, if_pos hr]
  refine ⟨?_, ?_, ?_⟩
  · show fillB D C D (r * 2 * D + C r / 2) = sg C r
    rw [at_ _ (by omega), if_neg (by omega), if_pos rfl]; rfl
  · rw [at_ _ (by omega), if_pos rfl]
  · intro j hj h1 h2
    rw [at_ j hj, if_neg h2, if_neg (show ¬ j = C r / 2 from h1)]
    exact isZ_zero

section
variable {D c : Nat} {C A o : Nat → Nat}

/-- Column c of the rows from c on: a unit just where the row's axis is c. -/
theorem Inv.col (h : Inv D c C A o) (hc : c < D) (hC : ∀ r, r < D → C r < 2 * D) (r : Nat) (h1 : c ≤ r) (h2 : r < D) :
    (ax C (o r) = c → A (r * 2 * D + c) = sg C (o r)) ∧ (ax C (o r) ≠ c → isZ (A (r * 2 * D + c))) := by
  have ho := h.lt r h2
  constructor
  · intro ha
    have := (h.live r h1 h2 (by omega)).1
    rw [ha] at this; exact this
  · intro ha
    by_cases hl : c ≤ ax C (o r)
    · exact (h.live r h1 h2 hl).2.2 c (by omega) (fun h => ha h.symm) (by omega)
    · exact (h.dead r h1 h2 (by omega)).1 c hc

theorem Inv.col_zu (h : Inv D c C A o) (hc : c < D) (hC : ∀ r, r < D → C r < 2 * D) (r : Nat) (h1 : c ≤ r) (h2 : r < D) : isZU (A (r * 2 * D + c)) := by
  by_cases ha : ax C (o r) = c
  · rw [(h.col hc hC r h1 h2).1 ha]; exact .inr (sg_u _ _)
  · exact .inl ((h.col hc hC r h1 h2).2 ha)

/-- The pivot is a unit as soon as there is one. -/
theorem Inv.piv (h : Inv D c C A o) (hc : c < D) (hC : ∀ r, r < D → C r < 2 * D) (k : Nat) (hk : c + k < D) :
    (∃ r, c ≤ r ∧ r ≤ c + k ∧ ax C (o r) = c) → ax C (o (pivN D c A k)) = c := by
  induction k with
  | zero =>
    rintro ⟨r, h1, h2, h3⟩
    obtain rfl : r = c := by omega
    exact h3
  | succ k ih =>
    have hb := pivN_bd D c A k
    have zu1 := h.col_zu hc hC (c + 1 + k) (by omega) (by omega)
    have c1 := h.col hc hC (c + 1 + k) (by omega) (by omega)
    have c2 := h.col hc hC (pivN D c A k) (by omega) (by omega)
    have zu2 := h.col_zu hc hC (pivN D c A k) (by omega) (by omega)
    rintro ⟨r, h1, h2, h3⟩
    simp only [pivN]
    by_cases hp : ax C (o (pivN D c A k)) = c
    · -- the pivot so far is a unit: it stays
      have u2 : isU (A (pivN D c A k * 2 * D + c)) := by rw [c2.1 hp]; exact sg_u _ _
      have : fgt (fabs (A ((c + 1 + k) * 2 * D + c))) (fabs (A (pivN D c A k * 2 * D + c))) = false := by
        rcases zu1 with z | u
        · exact gt_z z zu2
        · exact gt_uu u u2
      rw [this, if_neg (by simp)]
      exact hp
    · have z2 := c2.2 hp
      have hr : r = c + 1 + k := by
        by_cases h4 : r ≤ c + k
        · exact absurd (ih (by omega) ⟨r, h1, h4, h3⟩) hp
        · omega
      have u1 : isU (A ((c + 1 + k) * 2 * D + c)) := by rw [c1.1 (hr ▸ h3)]; exact sg_u _ _
      rw [gt_uz u1 z2, if_pos rfl]
      exact hr ▸ h3

theorem Inv.pivF_bd (hc : c < D) : c ≤ pivF D c A ∧ pivF D c A < D := by
  have := pivN_bd D c A (D - 1 - c)
  unfold pivF
  omega

/-- No row from c on has the axis c: no pivot. -/
theorem Inv.sing_of_none (h : Inv D c C A o) (hc : c < D) (hC : ∀ r, r < D → C r < 2 * D) (hn : ∀ r, c ≤ r → r < D → ax C (o r) ≠ c) : sing D c A = true := by
  have hp := Inv.pivF_bd (A := A) hc
  exact small_z ((h.col hc hC _ hp.1 hp.2).2 (hn _ hp.1 hp.2))

/-- There is one: the column is eliminated. -/
theorem Inv.step (h : Inv D c C A o) (hc : c < D) (hC : ∀ r, r < D → C r < 2 * D) (hs : ∃ r, c ≤ r ∧ r < D ∧ ax C (o r) = c) :
    sing D c A = false ∧ okCol D c A ∧ ∃ o', Inv D (c + 1) C (colF D c A) o' := by
  have hp := Inv.pivF_bd (A := A) hc
  obtain ⟨r0, h1, h2, h3⟩ := hs
  have hpa : ax C (o (pivF D c A)) = c := h.piv hc hC (D - 1 - c) (by omega) ⟨r0, h1, by omega, h3⟩
  have hpe := (h.col hc hC _ hp.1 hp.2).1 hpa
  generalize hpp : pivF D c A = p at hp hpa hpe
  have hpu : isU (A (p * 2 * D + c)) := by rw [hpe]; exact sg_u _ _
  -- where the rows stand behind the exchange
  obtain ⟨σ, hσ⟩ : ∃ σ : Nat → Nat, σ = fun r => if r = c then p else if r = p then c else r := ⟨_, rfl⟩
  have σc : σ c = p := by rw [hσ]; simp
  have σlt : ∀ r, r < c → σ r = r := fun r hr => by rw [hσ]; show (if r = c then p else if r = p then c else r) = r; rw [if_neg (by omega), if_neg (by omega)]
  have σge : ∀ r, c ≤ r → r < D → c ≤ σ r ∧ σ r < D := fun r h1 h2 => by
    rw [hσ]; show c ≤ (if r = c then p else if r = p then c else r) ∧ (if r = c then p else if r = p then c else r) < D
    split
    · exact hp
    · split <;> omega
  have σinj : ∀ r s, σ r = σ s → r = s := fun r s => by
    rw [hσ]; show (if r = c then p else if r = p then c else r) = (if s = c then p else if s = p then c else s) → r = s
    split <;> split <;> (try split) <;> (try split) <;> omega
  have σD : ∀ r, r < D → σ r < D := fun r hr => by
    by_cases h : r < c
    · rw [σlt r h]; exact hr
    · exact (σge r (by omega) hr).2
  have mid : ∀ r j, j < 2 * D → midF D c A (r * 2 * D + j) = A (σ r * 2 * D + j) := fun r j hj => by
    unfold midF; rw [hpp, swap_at D c p r j A hj, hσ]
  have midf : midF D c A (c * 2 * D + c) = sg C (o p) := by rw [mid c c (by omega), σc, hpe]
  have norm : ∀ r j, j < 2 * D → normF D c A (r * 2 * D + j) = if r = c then fdiv (A (p * 2 * D + j)) (sg C (o p)) else A (σ r * 2 * D + j) := fun r j hj => by
    unfold normF
    rw [div_at D c _ r j _ hj, midf]
    by_cases hr : r = c
    · rw [if_pos hr, if_pos hr, hr, mid c j hj, σc]
    · rw [if_neg hr, if_neg hr, mid r j hj]
  have hop := h.lt p hp.2
  have lp := h.live p hp.1 hp.2 (by omega)
  have su := sg_u C (o p)
  -- the pivot's row
  have nc : ∀ j, j < 2 * D → normF D c A (c * 2 * D + j) = fdiv (A (p * 2 * D + j)) (sg C (o p)) := fun j hj => by rw [norm c j hj, if_pos rfl]
  have nr : ∀ r j, r ≠ c → j < 2 * D → normF D c A (r * 2 * D + j) = A (σ r * 2 * D + j) := fun r j hr hj => by rw [norm r j hj, if_neg hr]
  have done_c : Done D C (normF D c A) c (o p) := by
    have hcp := hC _ hop
    refine ⟨?_, ?_, ?_⟩
    · rw [nc _ (by unfold ax; omega), lp.1]; exact div_self su
    · rw [nc _ (by omega), lp.2.1]; exact div_one su
    · intro j hj j1 j2
      rw [nc j hj]; exact div_z (lp.2.2 j hj j1 j2) su
  -- column c of the others
  have ncol : ∀ r, r < D → r ≠ c → (c < r ∧ ax C (o (σ r)) = c ∧ isU (normF D c A (r * 2 * D + c)) ) ∨ isZ (normF D c A (r * 2 * D + c)) := by
    intro r hr hrc
    rw [nr r c hrc (by omega)]
    by_cases hlt : r < c
    · right
      rw [σlt r hlt]
      obtain ⟨a1, a2⟩ := h.done r hlt
      exact a2.2.2 c (by omega) (by omega) (by omega)
    · obtain ⟨g1, g2⟩ := σge r (by omega) hr
      by_cases ha : ax C (o (σ r)) = c
      · left
        refine ⟨by omega, ha, ?_⟩
        rw [(h.col hc hC _ g1 g2).1 ha]; exact sg_u _ _
      · right; exact (h.col hc hC _ g1 g2).2 ha
  -- all words are noughts and units
  have nzu : ∀ r, r < D → ∀ j, j < 2 * D → isZU (normF D c A (r * 2 * D + j)) := by
    intro r hr j hj
    by_cases hrc : r = c
    · rw [hrc]; exact done_c.zu j hj
    · rw [nr r j hrc hj]
      by_cases hlt : r < c
      · rw [σlt r hlt]; exact (h.done r hlt).2.zu j hj
      · obtain ⟨g1, g2⟩ := σge r (by omega) hr
        by_cases ha : c ≤ ax C (o (σ r))
        · exact (h.live _ g1 g2 ha).zu j hj
        · exact (h.dead _ g1 g2 (by omega)).2 j hj
  have mulzu : ∀ r, r < D → r ≠ c → fne (normF D c A (r * 2 * D + c)) 0 = true → ∀ j, j < 2 * D → isZU (fmul (normF D c A (r * 2 * D + c)) (normF D c A (c * 2 * D + j))) := by
    intro r hr hrc hne j hj
    have hu : isU (normF D c A (r * 2 * D + c)) := by
      rcases ncol r hr hrc with ⟨_, _, u⟩ | z
      · exact u
      · rw [ne_z z] at hne; cases hne
    rcases nzu c hc j hj with z | u
    · exact .inl (mul_uz hu z)
    · exact .inr (mul_uu hu u)
  refine ⟨?_, ⟨?_, ?_⟩, fun r => o (σ r), ?_⟩
  · unfold sing; rw [hpp]; exact small_u hpu
  · intro j hj
    rw [mid c j hj, midf, σc]
    exact div_zu (lp.zu j hj) su
  · intro r hr hrc hne j hj
    exact ⟨mul_zu (nzu r hr c (by omega)) (nzu c hc j hj), sub_zu (nzu r hr j hj) (mulzu r hr hrc hne j hj)⟩
  · -- the invariant behind the column
    have el : ∀ r, r < D → ∀ j, j < 2 * D → colF D c A (r * 2 * D + j) = if r ≠ c ∧ fne (normF D c A (r * 2 * D + c)) 0 = true then fsub (normF D c A (r * 2 * D + j)) (fmul (normF D c A (r * 2 * D + c)) (normF D c A (c * 2 * D + j))) else normF D c A (r * 2 * D + j) := fun r hr j hj => elim_at D c r j _ hj hr
    have keep : ∀ r, r < D → (r = c ∨ isZ (normF D c A (r * 2 * D + c))) → ∀ j, j < 2 * D → colF D c A (r * 2 * D + j) = normF D c A (r * 2 * D + j) := by
      intro r hr hz j hj
      rw [el r hr j hj, if_neg]
      rintro ⟨a, b⟩
      rcases hz with hz | hz
      · exact a hz
      · rw [ne_z hz] at b; cases b
    have tr_done : ∀ (B B' : Nat → Nat) (r r' q : Nat), q < D → C q < 2 * D → (∀ j, j < 2 * D → B' (r' * 2 * D + j) = B (r * 2 * D + j)) → Done D C B r q → Done D C B' r' q := by
      intro B B' r r' q hq hcq e hd
      exact ⟨by rw [e _ (by unfold ax; omega)]; exact hd.1, by rw [e _ (by omega)]; exact hd.2.1, fun j hj j1 j2 => by rw [e j hj]; exact hd.2.2 j hj j1 j2⟩
    have tr_live : ∀ (B B' : Nat → Nat) (r r' q : Nat), q < D → C q < 2 * D → (∀ j, j < 2 * D → B' (r' * 2 * D + j) = B (r * 2 * D + j)) → Live D C B r q → Live D C B' r' q := by
      intro B B' r r' q hq hcq e hd
      exact ⟨by rw [e _ (by unfold ax; omega)]; exact hd.1, by rw [e _ (by omega)]; exact hd.2.1, fun j hj j1 j2 => by rw [e j hj]; exact hd.2.2 j hj j1 j2⟩
    refine ⟨fun r hr => h.lt _ (σD r hr), fun r hr s hs e => σinj r s (h.inj _ (σD r hr) _ (σD s hs) e), ?_, ?_, ?_⟩
    · intro r hr
      by_cases hrc : r = c
      · subst hrc
        show ax C (o (σ r)) = r ∧ Done D C (colF D r A) r (o (σ r))
        rw [σc]
        exact ⟨hpa, tr_done _ _ r r (o p) hop (hC _ hop) (keep r hc (.inl rfl)) done_c⟩
      · have hlt : r < c := by omega
        show ax C (o (σ r)) = r ∧ Done D C (colF D c A) r (o (σ r))
        rw [σlt r hlt]
        obtain ⟨a1, a2⟩ := h.done r hlt
        have ho := h.lt r (by omega)
        refine ⟨a1, tr_done A _ r r (o r) ho (hC _ ho) (fun j hj => ?_) a2⟩
        rw [keep r (by omega) (.inr ?_) j hj, nr r j hrc hj, σlt r hlt]
        rcases ncol r (by omega) hrc with ⟨g, _⟩ | z
        · omega
        · exact z
    · intro r hr hrD ha
      have hrc : r ≠ c := by omega
      obtain ⟨g1, g2⟩ := σge r (by omega) hrD
      have ho := h.lt _ g2
      show Live D C (colF D c A) r (o (σ r))
      have ha' : c + 1 ≤ ax C (o (σ r)) := ha
      refine tr_live A _ (σ r) r (o (σ r)) ho (hC _ ho) (fun j hj => ?_) (h.live _ g1 g2 (by omega))
      rw [keep r hrD (.inr ?_) j hj, nr r j hrc hj]
      rcases ncol r hrD hrc with ⟨_, g, _⟩ | z
      · omega
      · exact z
    · intro r hr hrD ha
      have hrc : r ≠ c := by omega
      obtain ⟨g1, g2⟩ := σge r (by omega) hrD
      have ho := h.lt _ g2
      have ha' : ax C (o (σ r)) < c + 1 := ha
      by_cases hac : ax C (o (σ r)) = c
      · -- a second row of the axis c: it dies here
        have lr := h.live _ g1 g2 (by omega)
        have hne : o (σ r) ≠ o p := fun e => by
          have := h.inj _ g2 _ hp.2 e
          rw [← σc] at this
          exact hrc (σinj _ _ this)
        have gu : isU (normF D c A (r * 2 * D + c)) := by
          rw [nr r c hrc (by omega), (h.col hc hC _ g1 g2).1 hac]; exact sg_u _ _
        have ev : ∀ j, j < 2 * D → colF D c A (r * 2 * D + j) = fsub (A (σ r * 2 * D + j)) (fmul (normF D c A (r * 2 * D + c)) (normF D c A (c * 2 * D + j))) := by
          intro j hj
          rw [el r hrD j hj, if_pos ⟨hrc, ne_u gu⟩, nr r j hrc hj]
        refine ⟨?_, ?_⟩
        · intro j hj
          rw [ev j (by omega)]
          by_cases hjc : j = c
          · rw [hjc]
            have e1 : normF D c A (c * 2 * D + c) = W1 := by have := done_c.1; rw [hpa] at this; exact this
            rw [e1, mul_one gu, nr r c hrc (by omega)]
            refine sub_self ?_
            rw [(h.col hc hC _ g1 g2).1 hac]; exact sg_u _ _
          · refine sub_zz (lr.2.2 j (by omega) (by omega) (by omega)) (mul_uz gu (done_c.2.2 j (by omega) (by omega) (by omega)))
        · intro j hj
          by_cases hjD : j < D
          · left
            rw [ev j hj]
            by_cases hjc : j = c
            · rw [hjc]
              have e1 : normF D c A (c * 2 * D + c) = W1 := by have := done_c.1; rw [hpa] at this; exact this
              rw [e1, mul_one gu, nr r c hrc (by omega)]
              refine sub_self ?_
              rw [(h.col hc hC _ g1 g2).1 hac]; exact sg_u _ _
            · refine sub_zz (lr.2.2 j (by omega) (by omega) (by omega)) (mul_uz gu (done_c.2.2 j (by omega) (by omega) (by omega)))
          · rw [ev j hj]
            by_cases j1 : j = D + o (σ r)
            · right
              have z : isZ (normF D c A (c * 2 * D + j)) := done_c.2.2 j hj (by omega) (by omega)
              rw [j1] at z ⊢
              rw [lr.2.1]
              exact sub_uz isU_one (mul_uz gu z)
            · have z : isZ (A (σ r * 2 * D + j)) := lr.2.2 j hj (by omega) j1
              by_cases j2 : j = D + o p
              · right
                have e2 := done_c.2.1
                rw [← j2] at e2
                rw [e2]
                exact sub_zu' z (mul_uu gu su)
              · left
                exact sub_zz z (mul_uz gu (done_c.2.2 j hj (by omega) j2))
      · -- it was dead already
        have dr := h.dead _ g1 g2 (by omega)
        have e : ∀ j, j < 2 * D → colF D c A (r * 2 * D + j) = A (σ r * 2 * D + j) := by
          intro j hj
          rw [keep r hrD (.inr ?_) j hj, nr r j hrc hj]
          rw [nr r c hrc (by omega)]
          exact dr.1 c hc
        exact ⟨fun j hj => by rw [e j (by omega)]; exact dr.1 j hj, fun j hj => by rw [e j hj]; exact dr.2 j hj⟩
end

end Go.Proofs.Ybulkbfeq
