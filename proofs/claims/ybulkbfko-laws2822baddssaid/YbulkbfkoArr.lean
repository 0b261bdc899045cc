/- A whole array of 286 ints: boxed, loaded, stored. -/
import Derived.Test.YbulkbfkoCount
import Derived.Deep.WholeRow
namespace Go.Proofs.Ybulkbfko
open Go.RowKit
set_option linter.unusedVariables false

/-- The cells cs are the 286 numbers c0. -/
def IsArr (cs : Array Value) (c0 : Nat → Int) : Prop := cs.size = 286 ∧ ∀ i, i < 286 → cs[i]? = some (.int .i64 (c0 i))
theorem IsArr.one {cs : Array Value} {c0 : Nat → Int} (h : IsArr cs c0) : cs.all (·.oneCell') = true := by
  rw [Array.all_eq_true]
  intro i hi
  have := h.2 i (by rw [← h.1]; exact hi)
  rw [Array.getElem?_eq_getElem hi] at this
  rw [Option.some.inj this]
  rfl
def ArrAt (w : World) (g : Nat) (cs : Array Value) : Prop := w.heap[g]? = some (.cells cs 22)
theorem ArrAt.ints {w : World} {g : Nat} {cs : Array Value} {c0 : Nat → Int} (h : ArrAt w g cs) (hc : IsArr cs c0) : Ints w g 22 286 c0 := ⟨cs, h, hc.1, hc.2⟩
theorem ArrAt.of_block {w w' : World} {g : Nat} {cs : Array Value} (h : ArrAt w g cs) (hb : w'.heap[g]? = w.heap[g]?) : ArrAt w' g cs := hb.trans h
theorem ArrAt.lt {w : World} {g : Nat} {cs : Array Value} (h : ArrAt w g cs) : g < w.heap.size := (Array.getElem?_eq_some_iff.1 h).1
theorem size22 : (Yba.prog.info? 22).map (·.size) = some 286 := by kernel_rfl

theorem wpList_boxArr {w : World} {ops : Array Oper} {rest : List Oper} {o : Oper} {a : Act} {Q : Exit → Act → World → Prop} (hgd : o.guard = none) (x : Operand) (ho : o.op = .box 22 x) (cs : Array Value) (hx : a.eval x = .agg cs)
    (h : ∀ w', ArrAt w' w.heap.size cs → Below w.heap.size w w' → wpList Yba.prog ops Q rest (a.put o.dst (.pointer (some ⟨w.heap.size, 0, none⟩))) w') : wpList Yba.prog ops Q (o :: rest) a w := by
  refine wpList_plain hgd fun K hK => ?_
  have hrun : (execOp a.eval o).run Yba.prog w = .ok (.value (.pointer (some ⟨w.heap.size, 0, none⟩))) (w.alloc (.cells cs 22)) := by
    simp only [execOp, ho, hx]
    simp [Instr.box, newVar, newRow, Value.cells]
  unfold Oper.wp
  rw [hrun]
  exact hK _ _ (h _ (Go.Deep.blk_alloc_new w _) ((Below.refl _ _).alloc (Nat.le_refl _) _))

theorem wpList_loadArr {w : World} {ops : Array Oper} {rest : List Oper} {o : Oper} {a : Act} {Q : Exit → Act → World → Prop} (hgd : o.guard = none) (p : Operand) (ho : o.op = .load 22 p) (g : Nat) (cs : Array Value) (hp : a.eval p = .pointer (some ⟨g, 0, none⟩)) (hg : ArrAt w g cs) (hs : cs.size = 286)
    (h : wpList Yba.prog ops Q rest (a.put o.dst (.agg cs)) w) : wpList Yba.prog ops Q (o :: rest) a w := by
  refine wpList_plain hgd fun K hK => ?_
  have hrun : (execOp a.eval o).run Yba.prog w = .ok (.value (.agg cs)) w := by
    simp only [execOp, ho, hp]
    simp [Instr.loadAt, Instr.sureAddr, run_loadVar_row (P := Yba.prog) w g 22 22 cs (0, 0) _ hg Yba.underlying22 rfl (by rw [hs]; exact size22)]
  unfold Oper.wp
  rw [hrun]
  exact hK _ _ h

theorem wpList_storeArr {w : World} {ops : Array Oper} {rest : List Oper} {o : Oper} {a : Act} {Q : Exit → Act → World → Prop} (hgd : o.guard = none) (p v : Operand) (ho : o.op = .store 22 p v) (hdst : o.dst = none) (g : Nat) (cs : Array Value) (c0 Z : Nat → Int) (hp : a.eval p = .pointer (some ⟨g, 0, none⟩)) (hv : a.eval v = .agg cs) (hr : Ints w g 22 286 Z) (hc : IsArr cs c0)
    (h : ∀ w', ArrAt w' g cs → Kept g w w' → wpList Yba.prog ops Q rest a w') : wpList Yba.prog ops Q (o :: rest) a w := by
  obtain ⟨old, hg, hn, _⟩ := hr
  refine wpList_plain hgd fun K hK => ?_
  have hrun : (execOp a.eval o).run Yba.prog w = .ok .skip (w.setRow g cs) := by
    simp only [execOp, ho, hp, hv]
    simp [Instr.storeAt, Instr.sureAddr, run_storeVar_row (P := Yba.prog) w g 22 22 old cs hg (by rw [hc.1]; exact size22) (by rw [hn, hc.1]) hc.one]
  unfold Oper.wp
  rw [hrun]
  refine hK _ _ ?_
  rw [hdst]
  exact h _ (setRow_heap w g old cs 22 (0, 0) hg) ⟨rfl, rfl, rfl, by simp [World.setRow], fun k hk => setRow_other w g k _ hk⟩

end Go.Proofs.Ybulkbfko
