/- readPosition where the place is one that a tree has. -/
import Derived.Test.YbulkbfiyFmtCount
namespace Go.Proofs.YbulkbfiyFmt
open Go.RowKit
attribute [local go_sem] eqNil22
set_option linter.unusedVariables false

/-- A position at X. -/
def Pair (w : World) (X : Nat) (d c : Int) : Prop := w.heap[X]? = some (.cells #[.int .u8 d, .int .u64 c] 27)
namespace Pair
variable {w w' : World} {X : Nat} {d c : Int}
theorem c0 (h : Pair w X d c) : w.cell? ⟨X, 0, none⟩ = some (.int .u8 d) := by simp [World.cell?, (show w.heap[X]? = _ from h)]
theorem c1 (h : Pair w X d c) : w.cell? ⟨X, 1, none⟩ = some (.int .u64 c) := by simp [World.cell?, (show w.heap[X]? = _ from h)]
theorem fz (h : Pair w X d c) (i : Nat) : w.frozen? ⟨X, i, none⟩ = false := by simp [World.frozen?, (show w.heap[X]? = _ from h)]
theorem lt (h : Pair w X d c) : X < w.heap.size := (Array.getElem?_eq_some_iff.1 h).1
theorem of_block (h : Pair w X d c) (hb : w'.heap[X]? = w.heap[X]?) : Pair w' X d c := hb.trans h
theorem new (w : World) (d c : Int) : Pair (w.alloc (.cells #[.int .u8 d, .int .u64 c] 27)) w.heap.size d c := Go.Deep.blk_alloc_new w _
end Pair

set_option maxRecDepth 1000000 in
set_option maxHeartbeats 1000000 in
theorem readPosition_ok (D g p N cap off : Nat) (d a0 a1 a2 a3 a4 c : Nat) (w : World) (h : Dec w D (.slice (some ⟨g, p, none⟩) N cap) off .nilIface) (hn : off + 6 ≤ N) (hN : N ≤ cap) (hb : N ≤ 100000) (hg : g ≠ D)
    (bd : d < 256) (b0 : a0 < 256) (b1 : a1 < 256) (b2 : a2 < 256) (b3 : a3 < 256) (b4 : a4 < 256) (hc : c = be5 a0 a1 a2 a3 a4) (hf : fits d c = true)
    (hx0 : w.cell? ⟨g, p + off, none⟩ = some (.int .u8 (d : Int)))
    (hx : ∀ j, j < 5 → w.cell? ⟨g, p + (off + 1) + j, none⟩ = some (.int .u8 ([a0, a1, a2, a3, a4].getD j 0 : Nat))) :
    Calls Ybaf.prog 6 #[.pointer (some ⟨D, 0, none⟩)] w fun en w' => en = .returned (.agg #[.int .u8 (d : Int), .int .u64 (c : Int)]) ∧ Dec w' D (.slice (some ⟨g, p, none⟩) N cap) (off + 6) .nilIface ∧ But w.heap.size D w w' := by
  have hgl : g < w.heap.size := World.block_lt_of_cell? w _ hx0
  have hDl : D < w.heap.size := h.lt
  have hcl := be5_lt a0 a1 a2 a3 a4 b0 b1 b2 b3 b4
  rw [← hc] at hcl
  have H0 := hide h
  have HX0 := hide hx0
  have HX := hide hx
  have HC := hide hc
  have HF := hide hf
  clear h hx0 hx hc hf
  go_enter Ybaf.func6, Ybaf.ntmps6
  have hb1 := (Below.refl w.heap.size w).alloc (Nat.le_refl _) (.cells #[.int .u8 0, .int .u64 0] 27)
  have k1 := Pair.new w 0 0
  have s1 : (w.alloc (.cells #[.int .u8 0, .int .u64 0] 27)).heap.size = w.heap.size + 1 := by simp
  go_wp2_with fail
  refine (uint8_ok D g p N cap off d _ (H0.out.below hb1 hDl) (by omega) hN hb hg ((hb1.cell (p := ⟨g, p + off, none⟩) hgl).trans HX0.out)).mono ?_
  rintro e w2 ⟨rfl, h2, t2, s2⟩
  generalize w.alloc (.cells #[.int .u8 0, .int .u64 0] 27) = w1 at *
  have k2 : Pair w2 w.heap.size 0 0 := k1.of_block (t2.block _ (by omega) (by omega))
  have hw2 : But w.heap.size D w w2 := (But.of_below hb1).trans (t2.mono (by omega))
  go_wp2_with fail
  refine (readCount_ok D g p N cap (off + 1) a0 a1 a2 a3 a4 w2 h2 (by omega) hN hb hg b0 b1 b2 b3 b4 (fun j hj => (hw2.cell (p := ⟨g, p + (off + 1) + j, none⟩) hgl hg).trans (HX.out j hj))).mono ?_
  rintro e w3 ⟨rfl, h3, t3⟩
  rw [← HC.out]
  have k3 : Pair w3 w.heap.size 0 0 := k2.of_block (t3.block _ (by omega) (by omega))
  have hw3 : But w.heap.size D w w3 := hw2.trans (t3.mono (by omega))
  have s3 : w.heap.size + 1 ≤ w3.heap.size := by have := t3.size; omega
  clear k1 k2 h2 t2 t3 hw2 hb1
  go_wp2_with fail
  refine (within_any d c _ bd hcl).mono ?_
  rintro e w4 ⟨rfl, hb4⟩
  have p3 := Pair.new w3 d c
  have b3' := (Below.refl w3.heap.size w3).alloc (Nat.le_refl _) (.cells #[.int .u8 d, .int .u64 c] 27)
  have p4 := p3.of_block (hb4.block _ p3.lt)
  have hb5 : Below w3.heap.size w3 w4 := b3'.trans (hb4.mono (by simp))
  have k4 := k3.of_block (hb5.block _ (by omega))
  have HD4 := hide (h3.below hb5 h3.lt)
  have HW4 := hide (hw3.trans (But.of_below (hb5.mono hw3.size)))
  have q0 := p4.c0
  have q1 := p4.c1
  have r0 := k4.c0
  have r1 := k4.c1
  have r2 := k4.fz 0
  have r3 := k4.fz 1
  clear p3 p4 k4 k3 hb5 hb4 b3' h3 hw3
  rw [HF.out]
  have hne1 : w3.heap.size ≠ w.heap.size := by omega
  go_wp2
  refine bodyPost_ret (v := .agg #[.int .u8 (d : Int), .int .u64 (c : Int)]) (by simp [results, Ybaf.results6, go_sem, r0, r1]) rfl ⟨rfl, ?_, (HW4.out.setCellUp (Nat.le_refl _) _ _).setCellUp (Nat.le_refl _) _ _⟩
  exact (HD4.out.of_block (Below.heap_setCell _ _ _ _ (by show D ≠ w.heap.size; omega))).of_block (Below.heap_setCell _ _ _ _ (by show D ≠ w.heap.size; omega))

end Go.Proofs.YbulkbfiyFmt
