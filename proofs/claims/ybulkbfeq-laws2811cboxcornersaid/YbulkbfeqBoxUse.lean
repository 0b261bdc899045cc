/- What the walk of LawS2811CBoxCorner takes from its arguments and from begin. -/
import Derived.Test.YbulkbfeqPick
namespace Go.Proofs.Ybulkbfeq
open Go.RowKit
attribute [local go_sem] run_store_float
set_option linter.unusedVariables false

theorem SelOk.alloc {w : World} {H D : Nat} {a : Option Addr} {len : Nat} {C : Nat → Nat} (h : SelOk w H D a len C) (hH : w.heap.size = H) (o : Obj) : SelOk (w.alloc o) (H + 1) D a len C := by
  rcases h with h | ⟨h0, h1, b, off, ha, hb, h⟩
  · exact .inl h
  · refine .inr ⟨h0, h1, b, off, ha, by omega, fun r hr => ?_⟩
    obtain ⟨z, h2, h3, h4⟩ := h r hr
    exact ⟨z, (World.cell?_alloc_lt _ _ _ (by show b < w.heap.size; omega)).trans h2, h3, h4⟩

theorem info4 : (Yba.prog.info? 4).map (fun i => (i.zero, i.size, i.bytes)) = some (some (.bool false), 1, 1) := by kernel_rfl

/-- What is left of begin's multipliers: up to which one they are not negative. -/
theorem mult_of {D : Nat} {C W : Nat → Nat} (hn : ∀ j, j < D → (Ieee.double.mul (sg C j) (W (ax C j))).isSome = true ∧ flt (fmul (sg C j) (W (ax C j))) 0 = flt (sumN D j (invB D C) W D) 0 ∧ fne (sumN D j (invB D C) W D) (fmul (sg C j) (W (ax C j))) = false)
    (jn : Nat) (hjn : jn ≤ D) (hlo : ∀ i, i < jn → flt (sumN D i (invB D C) W D) 0 = false) (hneg : jn < D → flt (sumN D jn (invB D C) W D) 0 = true) :
    (∀ j, j < D → (Ieee.double.mul (sg C j) (W (ax C j))).isSome = true) ∧
    (∀ j, j < jn → flt (fmul (sg C j) (W (ax C j))) 0 = false ∧ fne (wtJ D jn (invB D C) W (fun _ => 0) j) (fmul (sg C j) (W (ax C j))) = false) ∧
    (jn < D → flt (fmul (sg C jn) (W (ax C jn))) 0 = true) := by
  refine ⟨fun j hj => (hn j hj).1, fun j hj => ⟨?_, ?_⟩, fun h => ?_⟩
  · rw [(hn j (by omega)).2.1]; exact hlo j hj
  · unfold wtJ; rw [if_pos hj]; exact (hn j (by omega)).2.2
  · rw [(hn jn h).2.1]; exact hneg h

end Go.Proofs.Ybulkbfeq
