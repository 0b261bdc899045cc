/-
  ALL BLOCKS BUT ONE ARE AS THEY WERE ('Kept b w w''); 'copy' into a row of the call's own, the row told by its content ('rowIs'), as a step of a region that draws its order and as a law for a plain one.
-/
import Derived.Test.YbulkbfeqPlain
import Derived.Below
import Derived.Deep.Draws
import Derived.Laws.CopyRow
import Derived.Laws.CopyOwn
import Derived.Deep.RegionLaw
import Derived.Deep.RegionHeld3
namespace Go.Proofs.Ybulkbfeq
open Go Go.RowKit
attribute [local go_sem] run_store_float

theorem hide {p : Prop} (h : p) : Hid p := h

structure Kept (b : Nat) (w w' : World) : Prop where
  os : w'.os = w.os
  tape : w'.tape = w.tape
  output : w'.output = w.output
  size : w'.heap.size = w.heap.size
  block : ∀ k, k ≠ b → w'.heap[k]? = w.heap[k]?

namespace Kept
variable {b : Nat} {w w' w'' : World}
theorem refl (b : Nat) (w : World) : Kept b w w := ⟨rfl, rfl, rfl, rfl, fun _ _ => rfl⟩
theorem trans (h : Kept b w w') (k : Kept b w' w'') : Kept b w w'' :=
  ⟨k.os.trans h.os, k.tape.trans h.tape, k.output.trans h.output, k.size.trans h.size, fun i hi => (k.block i hi).trans (h.block i hi)⟩
theorem drew (h : Kept b w w') : Kept b w w'.drew := ⟨h.os, h.tape, h.output, h.size, h.block⟩
theorem drewN (h : Kept b w w') (n : Nat) : Kept b w (w'.drewN n) := ⟨h.os, h.tape, h.output, h.size, h.block⟩
theorem setCell (h : Kept b w w') (i : Nat) (v : Value) : Kept b w (w'.setCell ⟨b, i, none⟩ v) :=
  h.trans ⟨rfl, rfl, rfl, by simp [World.setCell], fun k hk => Below.heap_setCell _ _ _ _ hk⟩
theorem cell (h : Kept b w w') {a : Addr} (ha : a.block ≠ b) : w'.cell? a = w.cell? a := World.cell?_of_block (w := w) (h.block _ ha)
theorem frozen (h : Kept b w w') {a : Addr} (ha : a.block ≠ b) : w'.frozen? a = w.frozen? a := World.frozen?_of_block (w := w) (h.block _ ha)
theorem row (h : Kept b w w') {c t n : Nat} {f : Nat → Value} (hr : w.rowIs c t n f) (hc : c ≠ b) : w'.rowIs c t n f := hr.of_block (h.block c hc)
theorem below {B : Nat} {w0 : World} (h : Kept b w w') (hb : Below B w0 w) (hB : B ≤ b) : Below B w0 w' :=
  hb.trans ⟨h.os, h.tape, h.output, by rw [h.size]; exact Nat.le_refl _, fun k hk => h.block k (by omega)⟩
end Kept

theorem addr_add (g o j : Nat) : (⟨g, o, none⟩ : Addr).add j = ⟨g, o + j, none⟩ := Addr.add_lit ..

/-- 'copy(dst, src)', dst lying in a row known by its content. -/
theorem run_copy_is {P : Program} (w : World) (dT sT ty elem : TypeId) (g o dLen dCap : Nat) (b p sLen sCap : Nat) (t n m : Nat) (f s : Nat → Value)
    (hu : P.underlying dT = some (.slice elem)) (hs : (P.info? elem).map (·.size) = some 1) (hrow : w.rowIs g t n f) (hm : m = Nat.min sLen dLen)
    (hsrc : ∀ j, j < m → w.cell? ⟨b, p + j, none⟩ = some (s j)) (hfit : o + m ≤ n) (h1 : ∀ j, j < m → (s j).oneCell' = true) :
    ∃ w', (Builtin.copy_ #[dT, sT] ty #[.slice (some ⟨g, o, none⟩) dLen dCap, .slice (some ⟨b, p, none⟩) sLen sCap]).run P w = .ok (goInt m) w' ∧
      (w'.rowIs g t n fun i => if o ≤ i ∧ i < o + m then s (i - o) else f i) ∧ Kept g w w' := by
  obtain ⟨cur, hg, hn, hc⟩ := hrow
  have hrun := run_copy_row (P := P) w dT sT ty elem g o dLen dCap ⟨b, p, none⟩ sLen sCap cur t ((List.range m).map s) hu hs hg (by simpa using hm)
    (fun j v hj => by
      have hjm : j < m := by
        have := (List.getElem?_eq_some_iff.1 hj).1
        simpa using this
      rw [addr_add, hsrc j hjm]
      simpa [hjm] using hj) (by simpa [hn] using hfit) (fun v hv => by
      obtain ⟨j, hj, rfl⟩ := List.mem_map.1 hv
      exact h1 j (by simpa using hj))
  simp only [List.length_map, List.length_range] at hrun
  refine ⟨_, hrun, ⟨_, setRow_heap w g cur _ t (0, 0) hg, by simp; omega, fun i hi => ?_⟩, ⟨rfl, rfl, rfl, by simp [World.setRow], fun k hk => setRow_other w g k _ hk⟩⟩
  have hcur : cur.toList[i]? = some (f i) := by simpa using hc i hi
  simp only [List.getElem?_toArray]
  by_cases e1 : i < o
  · rw [if_neg (by omega), List.append_assoc, List.getElem?_append_left (by simp; omega), List.getElem?_take_of_lt e1]
    exact hcur
  · by_cases e2 : i < o + m
    · rw [if_pos ⟨by omega, e2⟩, List.getElem?_append_left (by simp; omega), List.getElem?_append_right (by simp; omega)]
      simp only [List.length_take, Array.length_toList, hn, Nat.min_eq_left (show o ≤ n by omega), List.getElem?_map, List.getElem?_range (show i - o < m by omega)]
      rfl
    · rw [if_neg (by omega), List.getElem?_append_right (by simp; omega)]
      simp only [List.length_append, List.length_take, Array.length_toList, List.length_map, List.length_range, hn, Nat.min_eq_left (show o ≤ n by omega), List.getElem?_drop]
      rw [show o + m + (i - (o + m)) = i by omega]
      exact hcur

theorem step_copy_is {P : Program} {ops : Array Oper} {o : Oper} {a : Act} {w : World} {K : Act → World → Prop} {Q : Exit → Act → World → Prop} {E : Prop} (hgd : o.guard = none) (d s : Operand) (dT sT : TypeId)
    (ho : o.op = .call { callee := .builtin .copy, args := #[d, s], argTypes := #[dT, sT] }) (elem : TypeId) (hu : P.underlying dT = some (.slice elem)) (hsz : (P.info? elem).map (·.size) = some 1)
    (g off dLen dCap b p sLen sCap : Nat) (hd : a.eval d = .slice (some ⟨g, off, none⟩) dLen dCap) (hs : a.eval s = .slice (some ⟨b, p, none⟩) sLen sCap)
    (t n m : Nat) (f src : Nat → Value) (hrow : w.rowIs g t n f) (hm : m = Nat.min sLen dLen)
    (hsrc : ∀ j, j < m → w.cell? ⟨b, p + j, none⟩ = some (src j)) (hfit : off + m ≤ n) (h1 : ∀ j, j < m → (src j).oneCell' = true)
    (h : ∀ w', (w'.rowIs g t n fun i => if off ≤ i ∧ i < off + m then src (i - off) else f i) → Kept g w w' → K (a.put o.dst (goInt m)) w') :
    if Region.wanted o (yielded ops a.tmps) = true then Oper.wp P o a w K Q else E := by
  have hw : Region.wanted o (yielded ops a.tmps) = true := by simp [Region.wanted, hgd]
  rw [if_pos hw]
  obtain ⟨w', hrun, hr, hk⟩ := run_copy_is (P := P) w dT sT o.type elem g off dLen dCap b p sLen sCap t n m f src hu hsz hrow hm hsrc hfit h1
  unfold Oper.wp
  simp [execOp, ho, resolve, invoke, builtin, hd, hs, hrun, Result.andThen]
  exact h _ hr hk

theorem wpList_copy_is {P : Program} {w : World} {ops : Array Oper} {rest : List Oper} {o : Oper} {a : Act} {Q : Exit → Act → World → Prop} (hgd : o.guard = none) (d s : Operand) (dT sT : TypeId)
    (ho : o.op = .call { callee := .builtin .copy, args := #[d, s], argTypes := #[dT, sT] }) (elem : TypeId) (hu : P.underlying dT = some (.slice elem)) (hsz : (P.info? elem).map (·.size) = some 1)
    (g off dLen dCap b p sLen sCap : Nat) (hd : a.eval d = .slice (some ⟨g, off, none⟩) dLen dCap) (hs : a.eval s = .slice (some ⟨b, p, none⟩) sLen sCap)
    (t n m : Nat) (f src : Nat → Value) (hrow : w.rowIs g t n f) (hm : m = Nat.min sLen dLen)
    (hsrc : ∀ j, j < m → w.cell? ⟨b, p + j, none⟩ = some (src j)) (hfit : off + m ≤ n) (h1 : ∀ j, j < m → (src j).oneCell' = true)
    (h : ∀ w', (w'.rowIs g t n fun i => if off ≤ i ∧ i < off + m then src (i - off) else f i) → Kept g w w' → wpList P ops Q rest (a.put o.dst (goInt m)) w') :
    wpList P ops Q (o :: rest) a w := by
  refine wpList_plain hgd fun K hK => ?_
  obtain ⟨w', hrun, hr, hk⟩ := run_copy_is (P := P) w dT sT o.type elem g off dLen dCap b p sLen sCap t n m f src hu hsz hrow hm hsrc hfit h1
  unfold Oper.wp
  simp [execOp, ho, resolve, invoke, builtin, hd, hs, hrun, Result.andThen]
  exact hK _ _ (h _ hr hk)

/-! ### The bookkeeping of the outer loops -/
theorem okSub_elim (D c k g : Nat) (A : Nat → Nat) (h : okSub D c k g A) : okSub D c k g (elimR D c k A) := by
  intro j hj
  rw [elimR_row D c k c j A hj (.inr rfl), elimR_row D c k k j A hj (.inl (Nat.le_refl _))]
  exact h j hj

theorem inv_step (D r : Nat) (A I : Nat → Nat) (hD : 0 < D) (i : Nat) :
    (if r * D ≤ i ∧ i < r * D + D then A (r * 2 * D + D + (i - r * D)) else invJ D r A I i) = invJ D (r + 1) A I i := by
  have hm := Nat.div_add_mod i D
  have hl := Nat.mod_lt i hD
  by_cases e : i / D = r
  · have hi : i = r * D + i % D := by rw [← e, Nat.mul_comm]; exact hm.symm
    rw [if_pos ⟨by omega, by omega⟩]
    simp only [invJ, e]
    rw [if_pos (by omega)]
    congr 1
    omega
  · have : ¬ (r * D ≤ i ∧ i < r * D + D) := by
      rintro ⟨h1, h2⟩
      apply e
      rw [Nat.mul_comm] at h1 h2
      exact Nat.div_eq_of_lt_le (by rw [Nat.mul_comm]; exact h1) (by rw [Nat.add_mul, Nat.one_mul, Nat.mul_comm r D]; exact h2)
    rw [if_neg this]
    simp only [invJ]
    congr 1
    apply propext
    omega
theorem invJ_zero (D : Nat) (A I : Nat → Nat) (i : Nat) : invJ D 0 A I i = I i := by simp [invJ]
theorem wt_step (D j : Nat) (I W V : Nat → Nat) (i : Nat) : (if i = j then sumN D j I W D else wtJ D j I W V i) = wtJ D (j + 1) I W V i := by
  simp only [wtJ]
  by_cases e : i = j
  · subst e; simp
  · rw [if_neg e]
    congr 1
    apply propext
    omega
theorem wtJ_zero (D : Nat) (I W V : Nat → Nat) (i : Nat) : wtJ D 0 I W V i = V i := by simp [wtJ]

/-- A walk that is shown not to panic serves whatever is asked at a panic. -/
theorem outOf {P : Program} {c : Code} {Q : Exit → Act → World → Prop} {a : Act} {w : World} (h : c.wp P (NoPanic Q) a w) : c.wp P Q a w :=
  Code.wp_mono (fun e a w h => by cases e <;> first | exact h | exact (h : False).elim) h

end Go.Proofs.Ybulkbfeq
