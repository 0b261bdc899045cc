/- WRITTEN BY PROGRAM (gen.py): the loops of (*simplex).begin at dimension 4. -/
import Derived.Test.YbulkbfeqSmall
import Derived.Test.YbulkbfeqKept
import Derived.WalkKit
import Derived.WalkSpells
import Derived.WalkLawsBesides
import Derived.Deep.OwnRows
import Derived.Deep.QuietTactic
import Derived.BigQuiet
import Derived.BigRegion
import Derived.Deep.RegionHeld3
import Derived.Deep.RegionWith
import Derived.Deep.DrawnRows
import Derived.Deep.DeepMust

namespace Go.Proofs.Ybulkbfeq.D4
open Go.RowKit
attribute [local go_sem] run_store_float
attribute [local go_sem ↓] Go.wp_at_zero Go.wp_at_succ
set_option linter.unusedVariables false
theorem info26 : (Yba.prog.info? 26).map (fun i => (i.zero, i.size, i.bytes)) = some (some (FV 0), 1, 8) := by kernel_rfl
theorem info3 : (Yba.prog.info? 3).map (fun i => (i.zero, i.size, i.bytes)) = some (some (.int .i64 0), 1, 8) := by kernel_rfl
/-- WHAT (*simplex).reset LEAVES: s lies in block S, the last block; its slices in the seven blocks behind it. -/
def Reset (S : Nat) (w w' : World) : Prop :=
  Below S w w' ∧ w'.heap.size = S + 8 ∧ w'.cell? ⟨S, 0, none⟩ = some (.int .i64 4) ∧ w'.cell? ⟨S, 1, none⟩ = some (.slice (some ⟨S + 1, 0, none⟩) 16 16) ∧ w'.cell? ⟨S, 2, none⟩ = some (.slice (some ⟨S + 2, 0, none⟩) 4 4) ∧ w'.cell? ⟨S, 3, none⟩ = some (.slice (some ⟨S + 3, 0, none⟩) 4 4) ∧ w'.cell? ⟨S, 7, none⟩ = some (.slice (some ⟨S + 7, 0, none⟩) 4 4) ∧
  (w'.rowIs (S + 1) 26 16 fun _ => FV 0) ∧ (w'.rowIs (S + 2) 26 4 fun _ => FV 0) ∧ (w'.rowIs (S + 3) 26 4 fun _ => FV 0) ∧ (w'.rowIs (S + 7) 3 4 fun _ => .int .i64 0)
theorem reset_world (S : Nat) (w w' : World) (v0 v1 v2 v3 v4 v5 v6 v7 : Value) (hS : w.heap.size = S + 1) (hs : w.heap[S]? = some (.cells #[v0, v1, v2, v3, v4, v5, v6, v7] 29 (0, 0)))
    (e : w' = (((((((((((((((w.setCell ⟨S, 0, none⟩ (.int .i64 4)).setCell ⟨S, 1, none⟩ (.slice (some ⟨S + 1, 0, none⟩) 16 16)).setCell ⟨S, 2, none⟩ (.slice (some ⟨S + 1 + 1, 0, none⟩) 4 4)).setCell ⟨S, 3, none⟩ (.slice (some ⟨S + 1 + 1 + 1, 0, none⟩) 4 4)).setCell ⟨S, 4, none⟩ (.slice (some ⟨S + 1 + 1 + 1 + 1, 0, none⟩) 4 4)).setCell ⟨S, 5, none⟩ (.slice (some ⟨S + 1 + 1 + 1 + 1 + 1, 0, none⟩) 4 4)).setCell ⟨S, 6, none⟩ (.slice (some ⟨S + 1 + 1 + 1 + 1 + 1 + 1, 0, none⟩) 4 4)).setCell ⟨S, 7, none⟩ (.slice (some ⟨S + 1 + 1 + 1 + 1 + 1 + 1 + 1, 0, none⟩) 4 4)).alloc (.cells (madeCells #[FV 0] 16) 26)).alloc (.cells (madeCells #[FV 0] 4) 26)).alloc (.cells (madeCells #[FV 0] 4) 26)).alloc (.cells (madeCells #[FV 0] 4) 26)).alloc (.cells (madeCells #[FV 0] 4) 26)).alloc (.cells (madeCells #[FV 0] 4) 26)).alloc (.cells (madeCells #[.int .i64 0] 4) 3))) : Reset S w w' := by
  subst e
  have h8 : ((((((((w.setCell ⟨S, 0, none⟩ (.int .i64 4)).setCell ⟨S, 1, none⟩ (.slice (some ⟨S + 1, 0, none⟩) 16 16)).setCell ⟨S, 2, none⟩ (.slice (some ⟨S + 1 + 1, 0, none⟩) 4 4)).setCell ⟨S, 3, none⟩ (.slice (some ⟨S + 1 + 1 + 1, 0, none⟩) 4 4)).setCell ⟨S, 4, none⟩ (.slice (some ⟨S + 1 + 1 + 1 + 1, 0, none⟩) 4 4)).setCell ⟨S, 5, none⟩ (.slice (some ⟨S + 1 + 1 + 1 + 1 + 1, 0, none⟩) 4 4)).setCell ⟨S, 6, none⟩ (.slice (some ⟨S + 1 + 1 + 1 + 1 + 1 + 1, 0, none⟩) 4 4)).setCell ⟨S, 7, none⟩ (.slice (some ⟨S + 1 + 1 + 1 + 1 + 1 + 1 + 1, 0, none⟩) 4 4)).heap[S]? = some (.cells #[.int .i64 4, .slice (some ⟨S + 1, 0, none⟩) 16 16, .slice (some ⟨S + 2, 0, none⟩) 4 4, .slice (some ⟨S + 3, 0, none⟩) 4 4, .slice (some ⟨S + 4, 0, none⟩) 4 4, .slice (some ⟨S + 5, 0, none⟩) 4 4, .slice (some ⟨S + 6, 0, none⟩) 4 4, .slice (some ⟨S + 7, 0, none⟩) 4 4] 29 (0, 0)) := by
    simp [World.setCell, Array.getElem?_modify, hs]
  have z8 : (((((((((w.setCell ⟨S, 0, none⟩ (.int .i64 4)).setCell ⟨S, 1, none⟩ (.slice (some ⟨S + 1, 0, none⟩) 16 16)).setCell ⟨S, 2, none⟩ (.slice (some ⟨S + 1 + 1, 0, none⟩) 4 4)).setCell ⟨S, 3, none⟩ (.slice (some ⟨S + 1 + 1 + 1, 0, none⟩) 4 4)).setCell ⟨S, 4, none⟩ (.slice (some ⟨S + 1 + 1 + 1 + 1, 0, none⟩) 4 4)).setCell ⟨S, 5, none⟩ (.slice (some ⟨S + 1 + 1 + 1 + 1 + 1, 0, none⟩) 4 4)).setCell ⟨S, 6, none⟩ (.slice (some ⟨S + 1 + 1 + 1 + 1 + 1 + 1, 0, none⟩) 4 4)).setCell ⟨S, 7, none⟩ (.slice (some ⟨S + 1 + 1 + 1 + 1 + 1 + 1 + 1, 0, none⟩) 4 4))).heap.size = S + 1 := by simp [World.setCell, hS]
  have b8 : Below S w ((((((((w.setCell ⟨S, 0, none⟩ (.int .i64 4)).setCell ⟨S, 1, none⟩ (.slice (some ⟨S + 1, 0, none⟩) 16 16)).setCell ⟨S, 2, none⟩ (.slice (some ⟨S + 1 + 1, 0, none⟩) 4 4)).setCell ⟨S, 3, none⟩ (.slice (some ⟨S + 1 + 1 + 1, 0, none⟩) 4 4)).setCell ⟨S, 4, none⟩ (.slice (some ⟨S + 1 + 1 + 1 + 1, 0, none⟩) 4 4)).setCell ⟨S, 5, none⟩ (.slice (some ⟨S + 1 + 1 + 1 + 1 + 1, 0, none⟩) 4 4)).setCell ⟨S, 6, none⟩ (.slice (some ⟨S + 1 + 1 + 1 + 1 + 1 + 1, 0, none⟩) 4 4)).setCell ⟨S, 7, none⟩ (.slice (some ⟨S + 1 + 1 + 1 + 1 + 1 + 1 + 1, 0, none⟩) 4 4)) :=
    (((((((((Below.refl S w).setCell (Nat.le_refl S) _).setCell (Nat.le_refl S) _).setCell (Nat.le_refl S) _).setCell (Nat.le_refl S) _).setCell (Nat.le_refl S) _).setCell (Nat.le_refl S) _).setCell (Nat.le_refl S) _).setCell (Nat.le_refl S) _)
  generalize ((((((((w.setCell ⟨S, 0, none⟩ (.int .i64 4)).setCell ⟨S, 1, none⟩ (.slice (some ⟨S + 1, 0, none⟩) 16 16)).setCell ⟨S, 2, none⟩ (.slice (some ⟨S + 1 + 1, 0, none⟩) 4 4)).setCell ⟨S, 3, none⟩ (.slice (some ⟨S + 1 + 1 + 1, 0, none⟩) 4 4)).setCell ⟨S, 4, none⟩ (.slice (some ⟨S + 1 + 1 + 1 + 1, 0, none⟩) 4 4)).setCell ⟨S, 5, none⟩ (.slice (some ⟨S + 1 + 1 + 1 + 1 + 1, 0, none⟩) 4 4)).setCell ⟨S, 6, none⟩ (.slice (some ⟨S + 1 + 1 + 1 + 1 + 1 + 1, 0, none⟩) 4 4)).setCell ⟨S, 7, none⟩ (.slice (some ⟨S + 1 + 1 + 1 + 1 + 1 + 1 + 1, 0, none⟩) 4 4)) = w8 at h8 b8 z8
  have bW := (((((((Below.refl (S + 1) w8).alloc (by omega) (.cells (madeCells #[FV 0] 16) 26)).alloc (by simp; omega) (.cells (madeCells #[FV 0] 4) 26)).alloc (by simp; omega) (.cells (madeCells #[FV 0] 4) 26)).alloc (by simp; omega) (.cells (madeCells #[FV 0] 4) 26)).alloc (by simp; omega) (.cells (madeCells #[FV 0] 4) 26)).alloc (by simp; omega) (.cells (madeCells #[FV 0] 4) 26)).alloc (by simp; omega) (.cells (madeCells #[.int .i64 0] 4) 3)
  have r1 := World.rowIs_made w8 (FV 0) 16 26
  have r2 := World.rowIs_made (w8.alloc (.cells (madeCells #[FV 0] 16) 26)) (FV 0) 4 26
  have r3 := World.rowIs_made ((w8.alloc (.cells (madeCells #[FV 0] 16) 26)).alloc (.cells (madeCells #[FV 0] 4) 26)) (FV 0) 4 26
  have r7 := World.rowIs_made ((((((w8.alloc (.cells (madeCells #[FV 0] 16) 26)).alloc (.cells (madeCells #[FV 0] 4) 26)).alloc (.cells (madeCells #[FV 0] 4) 26)).alloc (.cells (madeCells #[FV 0] 4) 26)).alloc (.cells (madeCells #[FV 0] 4) 26)).alloc (.cells (madeCells #[FV 0] 4) 26)) (.int .i64 0) 4 3
  simp only [World.size_alloc, z8] at r1 r2 r3 r7
  have hc : ∀ j, _ = w8.cell? ⟨S, j, none⟩ := fun j => bW.cell (p := ⟨S, j, none⟩) (by show S < S + 1; omega)
  refine ⟨b8.trans (bW.mono (by omega)), by simp [z8], ?_, ?_, ?_, ?_, ?_, (((((r1.alloc _).alloc _).alloc _).alloc _).alloc _).alloc _, ((((r2.alloc _).alloc _).alloc _).alloc _).alloc _, (((r3.alloc _).alloc _).alloc _).alloc _, r7⟩
  all_goals rw [hc]; simp [World.cell?, h8]
set_option maxRecDepth 100000 in
set_option maxHeartbeats 4000000 in
theorem reset_any (S : Nat) (w : World) (v0 v1 v2 v3 v4 v5 v6 v7 : Value) (hS : w.heap.size = S + 1) (hs : w.heap[S]? = some (.cells #[v0, v1, v2, v3, v4, v5, v6, v7] 29 (0, 0))) :
    Calls Yba.prog 6 #[.pointer (some ⟨S, 0, none⟩), .int .i64 4] w fun e w' => e = .returned (.tuple #[]) ∧ Reset S w w' := by
  have hmk : ∀ w : World, (Instr.makeSlice 24 (.int .i64 16) (.int .i64 16)).run Yba.prog w = .ok (.slice (some ⟨w.heap.size, 0, none⟩) 16 16) (w.alloc (.cells (madeCells #[FV 0] 16) 26)) := fun w => run_make_row' 24 26 (FV 0) 8 Yba.underlying24 info26 rfl .i64 .i64 16 (by omega) (by omega) w
  have hmd : ∀ w : World, (Instr.makeSlice 24 (.int .i64 4) (.int .i64 4)).run Yba.prog w = .ok (.slice (some ⟨w.heap.size, 0, none⟩) 4 4) (w.alloc (.cells (madeCells #[FV 0] 4) 26)) := fun w => run_make_row' 24 26 (FV 0) 8 Yba.underlying24 info26 rfl .i64 .i64 4 (by omega) (by omega) w
  have hmi : ∀ w : World, (Instr.makeSlice 25 (.int .i64 4) (.int .i64 4)).run Yba.prog w = .ok (.slice (some ⟨w.heap.size, 0, none⟩) 4 4) (w.alloc (.cells (madeCells #[.int .i64 0] 4) 3)) := fun w => run_make_row' 25 3 (.int .i64 0) 8 Yba.underlying25 info3 rfl .i64 .i64 4 (by omega) (by omega) w
  have q0 : w.cell? ⟨S, 0, none⟩ = some v0 := by simp [World.cell?, hs]
  have q1 : w.cell? ⟨S, 1, none⟩ = some v1 := by simp [World.cell?, hs]
  have q2 : w.cell? ⟨S, 2, none⟩ = some v2 := by simp [World.cell?, hs]
  have q3 : w.cell? ⟨S, 3, none⟩ = some v3 := by simp [World.cell?, hs]
  have q4 : w.cell? ⟨S, 4, none⟩ = some v4 := by simp [World.cell?, hs]
  have q5 : w.cell? ⟨S, 5, none⟩ = some v5 := by simp [World.cell?, hs]
  have q6 : w.cell? ⟨S, 6, none⟩ = some v6 := by simp [World.cell?, hs]
  have q7 : w.cell? ⟨S, 7, none⟩ = some v7 := by simp [World.cell?, hs]
  have z : ∀ j, w.frozen? ⟨S, j, none⟩ = false := fun j => by simp [World.frozen?, hs]
  have HS := hide hs
  clear hs
  go_enter Yba.func6, Yba.ntmps6
  go_wp2
  go_end0
  refine ⟨rfl, reset_world S w _ v0 v1 v2 v3 v4 v5 v6 v7 hS HS.out rfl⟩

end Go.Proofs.Ybulkbfeq.D4
