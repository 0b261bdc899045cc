/- Rows of ints of the call's own; how often a byte occurs; laws for 'var x [N]T' and for a store into such a row. -/
import Derived.Test.YbulkbfkoKept
import Derived.WalkKit
import Derived.WalkSpells
import Derived.WalkLawsBesides
import Derived.Below
import Derived.Deep.OwnRows
import Derived.Deep.QuietTactic
import Derived.BigQuiet
import Derived.BigRegion
import Derived.Deep.RegionHeld3
import Derived.Deep.RegionWith
import Derived.Deep.DrawnRows
import Derived.Deep.DeepMust
import Derived.Laws.AppendOwn
import Derived.Laws.AppendOwnNone
namespace Go.Proofs.Ybulkbfko
open Go.RowKit
set_option linter.unusedVariables false

/-! ### no Go -/
/-- How often b stands among the first i. -/
def occ (x : Nat → Nat) (b : Nat) : Nat → Nat
  | 0 => 0
  | i + 1 => occ x b i + (if x i = b then 1 else 0)
theorem occ_le (x : Nat → Nat) (b i : Nat) : occ x b i ≤ i := by
  induction i with
  | zero => exact Nat.le_refl _
  | succ i ih =>
    simp only [occ]
    split <;> omega
def upd (Z : Nat → Int) (p : Nat) (v : Int) (j : Nat) : Int := if j = p then v else Z j
theorem upd_at (Z : Nat → Int) (p : Nat) (v : Int) : upd Z p v p = v := if_pos rfl
theorem upd_ne (Z : Nat → Int) (p : Nat) (v : Int) (j : Nat) (h : j ≠ p) : upd Z p v j = Z j := if_neg h

/-- The four tables together. -/
def sum4 (T : Nat → Int) (b : Nat) : Int := T b + T (256 + b) + T (512 + b) + T (768 + b)
theorem sum4_upd0 (T : Nat → Int) (y b : Nat) (hy : y < 256) (hb : b < 256) : sum4 (upd T (y) (T (y) + 1)) b = sum4 T b + (if y = b then 1 else 0) := by
  unfold sum4
  by_cases e : y = b
  · subst e
    rw [if_pos rfl, upd_at, upd_ne _ _ _ (256 + y) (by omega), upd_ne _ _ _ (512 + y) (by omega), upd_ne _ _ _ (768 + y) (by omega)]
    omega
  · rw [if_neg e, upd_ne _ _ _ (b) (by omega), upd_ne _ _ _ (256 + b) (by omega), upd_ne _ _ _ (512 + b) (by omega), upd_ne _ _ _ (768 + b) (by omega)]
    omega
theorem sum4_upd1 (T : Nat → Int) (y b : Nat) (hy : y < 256) (hb : b < 256) : sum4 (upd T (256 + y) (T (256 + y) + 1)) b = sum4 T b + (if y = b then 1 else 0) := by
  unfold sum4
  by_cases e : y = b
  · subst e
    rw [if_pos rfl, upd_ne _ _ _ (y) (by omega), upd_at, upd_ne _ _ _ (512 + y) (by omega), upd_ne _ _ _ (768 + y) (by omega)]
    omega
  · rw [if_neg e, upd_ne _ _ _ (b) (by omega), upd_ne _ _ _ (256 + b) (by omega), upd_ne _ _ _ (512 + b) (by omega), upd_ne _ _ _ (768 + b) (by omega)]
    omega
theorem sum4_upd2 (T : Nat → Int) (y b : Nat) (hy : y < 256) (hb : b < 256) : sum4 (upd T (512 + y) (T (512 + y) + 1)) b = sum4 T b + (if y = b then 1 else 0) := by
  unfold sum4
  by_cases e : y = b
  · subst e
    rw [if_pos rfl, upd_ne _ _ _ (y) (by omega), upd_ne _ _ _ (256 + y) (by omega), upd_at, upd_ne _ _ _ (768 + y) (by omega)]
    omega
  · rw [if_neg e, upd_ne _ _ _ (b) (by omega), upd_ne _ _ _ (256 + b) (by omega), upd_ne _ _ _ (512 + b) (by omega), upd_ne _ _ _ (768 + b) (by omega)]
    omega
theorem sum4_upd3 (T : Nat → Int) (y b : Nat) (hy : y < 256) (hb : b < 256) : sum4 (upd T (768 + y) (T (768 + y) + 1)) b = sum4 T b + (if y = b then 1 else 0) := by
  unfold sum4
  by_cases e : y = b
  · subst e
    rw [if_pos rfl, upd_ne _ _ _ (y) (by omega), upd_ne _ _ _ (256 + y) (by omega), upd_ne _ _ _ (512 + y) (by omega), upd_at]
    omega
  · rw [if_neg e, upd_ne _ _ _ (b) (by omega), upd_ne _ _ _ (256 + b) (by omega), upd_ne _ _ _ (512 + b) (by omega), upd_ne _ _ _ (768 + b) (by omega)]
    omega

/-! ### worlds -/
/-- Of the blocks below B, all but D are as they were. -/
structure But (B D : Nat) (w w' : World) : Prop where
  os : w'.os = w.os
  tape : w'.tape = w.tape
  output : w'.output = w.output
  size : w.heap.size ≤ w'.heap.size
  block : ∀ k, k < B → k ≠ D → w'.heap[k]? = w.heap[k]?

namespace But
variable {B D : Nat} {w w' w'' : World}
theorem refl (B D : Nat) (w : World) : But B D w w := ⟨rfl, rfl, rfl, Nat.le_refl _, fun _ _ _ => rfl⟩
theorem trans (h : But B D w w') (k : But B D w' w'') : But B D w w'' :=
  ⟨k.os.trans h.os, k.tape.trans h.tape, k.output.trans h.output, Nat.le_trans h.size k.size, fun i hi hd => (k.block i hi hd).trans (h.block i hi hd)⟩
theorem mono {B' : Nat} (h : But B D w w') (hB : B' ≤ B) : But B' D w w' := ⟨h.os, h.tape, h.output, h.size, fun k hk hd => h.block k (by omega) hd⟩
theorem drewN (h : But B D w w') (n : Nat) : But B D w (w'.drewN n) := ⟨h.os, h.tape, h.output, h.size, h.block⟩
theorem of_below (h : Below B w w') : But B D w w' := ⟨h.os, h.tape, h.output, h.size, fun k hk _ => h.block k hk⟩
theorem of_kept (h : Kept D w w') : But B D w w' := ⟨h.os, h.tape, h.output, by rw [h.size]; exact Nat.le_refl _, fun k _ hd => h.block k hd⟩
theorem cell (h : But B D w w') {p : Addr} (hp : p.block < B) (hd : p.block ≠ D) : w'.cell? p = w.cell? p := World.cell?_of_block (w := w) (h.block _ hp hd)
theorem below (h : But B D w w') {A : Nat} (hA : A ≤ B) (hD : A ≤ D) : Below A w w' := ⟨h.os, h.tape, h.output, h.size, fun k hk => h.block k (by omega) (by omega)⟩
end But

/-- A row of n ints at g. -/
def Ints (w : World) (g t n : Nat) (Z : Nat → Int) : Prop := w.rowIs g t n fun j => .int .i64 (Z j)
theorem Ints.cell {w : World} {g t n : Nat} {Z : Nat → Int} (h : Ints w g t n Z) {i : Nat} (hi : i < n) : w.cell? ⟨g, i, none⟩ = some (.int .i64 (Z i)) := World.rowIs.cell h hi
theorem Ints.frozen {w : World} {g t n : Nat} {Z : Nat → Int} (h : Ints w g t n Z) (i : Nat) : w.frozen? ⟨g, i, none⟩ = false := by
  obtain ⟨cur, hg, _⟩ := h
  simp [World.frozen?, hg]
theorem Ints.lt {w : World} {g t n : Nat} {Z : Nat → Int} (h : Ints w g t n Z) : g < w.heap.size := by
  obtain ⟨cur, hg, _⟩ := h
  exact (Array.getElem?_eq_some_iff.1 hg).1
theorem Ints.of_block {w w' : World} {g t n : Nat} {Z : Nat → Int} (h : Ints w g t n Z) (hb : w'.heap[g]? = w.heap[g]?) : Ints w' g t n Z := World.rowIs.of_block h hb
theorem Ints.congr {w : World} {g t n : Nat} {Z Y : Nat → Int} (h : Ints w g t n Z) (e : ∀ i, i < n → Z i = Y i) : Ints w g t n Y := by
  exact World.rowIs.congr h fun i hi => by show Value.int .i64 (Z i) = Value.int .i64 (Y i); rw [e i hi]
theorem Ints.set {w : World} {g t n : Nat} {Z : Nat → Int} (h : Ints w g t n Z) (p : Nat) (v : Int) : Ints (w.setCell ⟨g, p, none⟩ (.int .i64 v)) g t n (upd Z p v) := by
  refine World.rowIs.congr (World.rowIs.set h p (.int .i64 v)) fun i hi => ?_
  show (if i = p then Value.int .i64 v else Value.int .i64 (Z i)) = Value.int .i64 (upd Z p v i)
  unfold upd
  split <;> rfl

/-- 'p = v', p an element of a row of ints. -/
theorem wpList_put {w : World} {ops : Array Oper} {rest : List Oper} {o : Oper} {a : Act} {Q : Exit → Act → World → Prop} (hgd : o.guard = none) (p v : Operand) (ho : o.op = .store 3 p v) (hdst : o.dst = none)
    (g t n i : Nat) (Z : Nat → Int) (z : Int) (Z' : Nat → Int) (hZ : Z' = upd Z i z) (hp : a.eval p = .pointer (some ⟨g, i, none⟩)) (hv : a.eval v = .int .i64 z) (hr : Ints w g t n Z) (hi : i < n)
    (h : ∀ w', Ints w' g t n Z' → Kept g w w' → wpList Yba.prog ops Q rest a w') : wpList Yba.prog ops Q (o :: rest) a w := by
  subst hZ
  have hc := hr.cell hi
  have hf := hr.frozen i
  refine wpList_plain hgd fun K hK => ?_
  have hrun : (execOp a.eval o).run Yba.prog w = .ok .skip (w.setCell ⟨g, i, none⟩ (.int .i64 z)) := by
    simp only [execOp, ho, hp, hv]
    go_simp
  unfold Oper.wp
  rw [hrun]
  refine hK _ _ ?_
  rw [hdst]
  exact h _ (hr.set i z) ((Kept.refl _ _).setCell _ _)

/-- 'var x [n]int' (or an array of such arrays). -/
theorem wpList_zeros {w : World} {ops : Array Oper} {rest : List Oper} {o : Oper} {a : Act} {Q : Exit → Act → World → Prop} (hgd : o.guard = none) (t n : Nat) (ho : o.op = .alloc t) (hz : (Yba.prog.info? t).map (fun i => i.zero.map Value.cells) = some (some (Array.replicate n (.int .i64 0))))
    (h : ∀ w', Ints w' w.heap.size t n (fun _ => 0) → Below w.heap.size w w' → wpList Yba.prog ops Q rest (a.put o.dst (.pointer (some ⟨w.heap.size, 0, none⟩))) w') : wpList Yba.prog ops Q (o :: rest) a w := by
  obtain ⟨inf, hinf, hm⟩ := Option.map_eq_some_iff.1 hz
  obtain ⟨z, hz1, hz2⟩ := Option.map_eq_some_iff.1 hm
  refine wpList_plain hgd fun K hK => ?_
  have hrun : (execOp a.eval o).run Yba.prog w = .ok (.value (.pointer (some ⟨w.heap.size, 0, none⟩))) (w.alloc (.cells (Array.replicate n (.int .i64 0)) t)) := by
    simp only [execOp, ho]
    simp [Instr.alloc, zeroValue, typeInfo, hinf, hz1, newVar, newRow, hz2]
  unfold Oper.wp
  rw [hrun]
  refine hK _ _ (h _ ?_ ((Below.refl _ _).alloc (Nat.le_refl _) _))
  have := World.rowIs_alloc w (Array.replicate n (.int .i64 0)) t (fun _ => .int .i64 0) (fun i hi => by simp at hi; simp [hi])
  rw [Array.size_replicate] at this
  exact this

theorem zeros32 : (Yba.prog.info? 32).map (fun i => i.zero.map Value.cells) = some (some (Array.replicate 1024 (.int .i64 0))) := by kernel_rfl
theorem zeros22 : (Yba.prog.info? 22).map (fun i => i.zero.map Value.cells) = some (some (Array.replicate 286 (.int .i64 0))) := by kernel_rfl
theorem zeros29 : (Yba.prog.info? 29).map (fun i => i.zero.map Value.cells) = some (some (Array.replicate 256 (.int .i64 0))) := by kernel_rfl

end Go.Proofs.Ybulkbfko
