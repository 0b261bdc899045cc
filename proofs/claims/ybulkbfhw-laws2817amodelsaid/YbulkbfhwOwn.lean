/- A slice of runs that the call itself made: three cells a run. -/
import Derived.Test.YbulkbfhwKept
import Derived.OwnWalk
import Derived.Laws.AppendOwn
import Derived.WalkSmall
namespace Go.Proofs.Ybulkbfhw
open Go.RowKit
set_option linter.unusedVariables false

def cellsOf (x : Run) : List Value := [.int .i64 x.1, .int .i32 x.2.1, .int .i32 x.2.2]
def flat : List Run → List Value
  | [] => []
  | x :: R => cellsOf x ++ flat R
theorem flat_length (R : List Run) : (flat R).length = R.length * 3 := by
  induction R with
  | nil => rfl
  | cons x R ih => simp [flat, cellsOf, ih]; omega
theorem flat_append (R S : List Run) : flat (R ++ S) = flat R ++ flat S := by
  induction R with
  | nil => rfl
  | cons x R ih => simp [flat, ih]
theorem flat_at (R : List Run) (i : Nat) (x : Run) (h : R[i]? = some x) : (flat R)[i * 3]? = some (.int .i64 x.1) ∧ (flat R)[i * 3 + 1]? = some (.int .i32 x.2.1) ∧ (flat R)[i * 3 + 2]? = some (.int .i32 x.2.2) := by
  induction R generalizing i with
  | nil => simp at h
  | cons y R ih =>
    cases i with
    | zero =>
      simp at h
      subst h
      exact ⟨rfl, rfl, rfl⟩
    | succ i =>
      simp only [List.getElem?_cons_succ] at h
      obtain ⟨h0, h1, h2⟩ := ih i h
      have e : ∀ j, (flat (y :: R))[j + 3]? = (flat R)[j]? := fun j => rfl
      rw [show (i + 1) * 3 = i * 3 + 3 by omega, show i * 3 + 3 + 1 = i * 3 + 1 + 3 by omega, show i * 3 + 3 + 2 = i * 3 + 2 + 3 by omega, e, e, e]
      exact ⟨h0, h1, h2⟩

/-- The slice v, whose row lies at B or beyond, holds the runs R. -/
def HasRuns (w : World) (B : Nat) (v : Value) (R : List Run) : Prop := w.ownsRow B 49 3 v R.length (flat R)

theorem HasRuns.below {w w' : World} {B : Nat} {v : Value} {R : List Run} (h : HasRuns w B v R) (hb : Below w.heap.size w w') : HasRuns w' B v R := by
  refine ⟨h.1, ?_⟩
  rcases h.2 with hn | ⟨g, cap, cur, e, hB, hg, rest⟩
  · exact .inl hn
  · exact .inr ⟨g, cap, cur, e, hB, (hb.block g (Array.getElem?_eq_some_iff.1 hg).1).trans hg, rest⟩
theorem HasRuns.drewN {w : World} {B : Nat} {v : Value} {R : List Run} (h : HasRuns w B v R) (q : Nat) : HasRuns (w.drewN q) B v R := h

/-- Of a slice of runs that is not empty: its form. -/
theorem HasRuns.form {w : World} {B : Nat} {v : Value} {R : List Run} (h : HasRuns w B v R) (hR : 0 < R.length) : ∃ g cap, v = .slice (some ⟨g, 0, none⟩) R.length cap ∧ B ≤ g ∧ g < w.heap.size ∧ R.length ≤ cap ∧ cap ≤ maxLen ∧ ∀ j u, (flat R)[j]? = some u → w.cell? ⟨g, j, none⟩ = some u := by
  rcases h.2 with ⟨_, hn⟩ | ⟨g, cap, cur, e, hB, hg, hc, hm, hs, ht⟩
  · omega
  · refine ⟨g, cap, e, hB, (Array.getElem?_eq_some_iff.1 hg).1, hc, hm, fun j u hu => ?_⟩
    rw [cell_of_row w g j cur 49 (0, 0) hg]
    rw [← ht, List.getElem?_take] at hu
    split at hu
    · simpa using hu
    · cases hu
theorem HasRuns.len {w : World} {B : Nat} {v : Value} {R : List Run} (h : HasRuns w B v R) : ∃ a cap, v = .slice a R.length cap := by
  rcases h.2 with ⟨e, hn⟩ | ⟨g, cap, cur, e, _⟩
  · rw [hn]; exact ⟨none, 0, e⟩
  · exact ⟨_, _, e⟩

theorem set_flat (R : List Run) (k f l u : Int) : (flat (R ++ [(k, f, l)])).set (R.length * 3 + 2) (.int .i32 u) = flat (R ++ [(k, f, u)]) := by
  rw [flat_append, flat_append, List.set_append_right _ _ (by rw [flat_length]; omega), flat_length, show R.length * 3 + 2 - R.length * 3 = 2 by omega]
  rfl

/-- The last run's last place is written anew. -/
theorem HasRuns.bump {w : World} {B : Nat} {R : List Run} {k f l : Int} {g cap : Nat} (h : HasRuns w B (.slice (some ⟨g, 0, none⟩) (R.length + 1) cap) (R ++ [(k, f, l)])) :
    w.cell? ⟨g, R.length * 3 + 2, none⟩ = some (.int .i32 l) ∧ w.frozen? ⟨g, R.length * 3 + 2, none⟩ = false ∧ ∀ u, HasRuns (w.setCell ⟨g, R.length * 3 + 2, none⟩ (.int .i32 u)) B (.slice (some ⟨g, 0, none⟩) (R.length + 1) cap) (R ++ [(k, f, u)]) := by
  rcases h.2 with ⟨e, _⟩ | ⟨g', cap', cur, e, hB, hg, hc, hm, hs, ht⟩
  · cases e
  · simp only [Value.slice.injEq, Option.some.injEq, Addr.mk.injEq, and_true] at e
    obtain ⟨rfl, _, rfl⟩ := e
    have hlen : (R ++ [(k, f, l)]).length = R.length + 1 := by simp
    rw [hlen] at hc ht
    have hj : (flat (R ++ [(k, f, l)]))[R.length * 3 + 2]? = some (.int .i32 l) := (flat_at _ R.length (k, f, l) (by simp)).2.2
    refine ⟨?_, by simp [World.frozen?, hg], fun u => ⟨by rw [flat_length], .inr ⟨g, cap, cur.setIfInBounds (R.length * 3 + 2) (.int .i32 u), by simp, hB, ?_, by simpa using hc, hm, by simpa using hs, ?_⟩⟩⟩
    · rw [cell_of_row w g _ cur 49 (0, 0) hg]
      rw [← ht, List.getElem?_take] at hj
      split at hj
      · simpa using hj
      · cases hj
    · simp [World.setCell, Array.getElem?_modify, hg]
    · rw [← set_flat R k f l u, ← ht]
      simp [List.take_set]

theorem HasRuns.cells {w : World} {B : Nat} {a : Option Addr} {cap : Nat} {R : List Run} (h : HasRuns w B (.slice a R.length cap) R) (h0 : 0 < R.length) :
    ∃ g, a = some ⟨g, 0, none⟩ ∧ ∀ i, i < R.length → w.cell? ⟨g, i * 3, none⟩ = some (.int .i64 (R.getD i (0, 0, 0)).1) ∧ w.cell? ⟨g, i * 3 + 1, none⟩ = some (.int .i32 (R.getD i (0, 0, 0)).2.1) ∧ w.cell? ⟨g, i * 3 + 2, none⟩ = some (.int .i32 (R.getD i (0, 0, 0)).2.2) := by
  obtain ⟨g, cap', e, _, _, _, _, hc⟩ := h.form h0
  simp only [Value.slice.injEq] at e
  refine ⟨g, e.1, fun i hi => ?_⟩
  have hi' : R[i]? = some (R.getD i (0, 0, 0)) := by simp [List.getD, hi]
  obtain ⟨f0, f1, f2⟩ := flat_at R i _ hi'
  exact ⟨hc _ _ f0, hc _ _ f1, hc _ _ f2⟩

theorem info49 : (Yba.prog.info? 49).map (fun i => (i.zero, i.size, i.bytes)) = some (some (.agg #[.int .i64 0, .int .i32 0, .int .i32 0]), 3, 16) := by kernel_rfl
theorem HasRuns.snoc {w w' : World} {B : Nat} {v : Value} {R : List Run} {k f l : Int} (h : w'.ownsRow B 49 3 v (R.length + 1) (flat R ++ [.int .i64 k, .int .i32 f, .int .i32 l])) : HasRuns w' B v (R ++ [(k, f, l)]) := by
  unfold HasRuns
  rw [flat_append, List.length_append]
  exact h

end Go.Proofs.Ybulkbfhw
