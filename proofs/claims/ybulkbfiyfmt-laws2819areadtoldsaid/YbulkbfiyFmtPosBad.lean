/- readPosition where the bytes run out, and where no tree has the place. -/
import Derived.Test.YbulkbfiyFmtBad
namespace Go.Proofs.YbulkbfiyFmt
open Go.RowKit Go.Extern.Stop Go.Stop Go.Extern
attribute [local go_sem] call17 call19 fguard fmt_a fmt_ar fmt_b fmt_br fmt_c fmt_cr op5_100 op5_100w act5_100 op25_100 op25_100w act25_100 op3_100 op3_100w act3_100 op9_115w ptr53 elem53 eqNil22
set_option linter.unusedVariables false

set_option maxRecDepth 1000000 in
set_option maxHeartbeats 1000000 in
theorem readPosition_short (F : Interp) (D N cap : Nat) (a : Option Addr) (d : Nat) (w : World) (hF : F.answers w.tape) (hb : N ≤ 100000) (bd : d < 256) (hDl : D < w.heap.size)
    (hU : ∀ W, Below w.heap.size w W → Calls Ybaf.prog 8 #[.pointer (some ⟨D, 0, none⟩)] W fun en w' => en = .returned (.int .u8 (d : Int)) ∧ ∃ off ev, Dec w' D (.slice a N cap) off ev ∧ Bad N off 5 ev ∧ off ≤ N ∧ But W.heap.size D W w') :
    Calls Ybaf.prog 6 #[.pointer (some ⟨D, 0, none⟩)] w fun en w' => en = .returned (.agg #[.int .u8 (d : Int), .int .u64 0]) ∧ ∃ off p, Dec w' D (.slice a N cap) off (.iface 53 (.pointer p)) ∧ off ≤ N ∧ But w.heap.size D w w' := by
  have HU := hide hU
  have HF := hide hF
  clear hU hF
  go_enter Ybaf.func6, Ybaf.ntmps6
  have hb1 := (Below.refl w.heap.size w).alloc (Nat.le_refl _) (.cells #[.int .u8 0, .int .u64 0] 27)
  have k1 := Pair.new w 0 0
  have s1 : (w.alloc (.cells #[.int .u8 0, .int .u64 0] 27)).heap.size = w.heap.size + 1 := by simp
  go_wp2_with fail
  refine (HU.out _ hb1).mono ?_
  rintro e w2 ⟨rfl, off, ev, h2, hbad, hoff, t2⟩
  generalize w.alloc (.cells #[.int .u8 0, .int .u64 0] 27) = w1 at *
  have k2 : Pair w2 w.heap.size 0 0 := k1.of_block (t2.block _ (by omega) (by omega))
  have hw2 : But w.heap.size D w w2 := (But.of_below hb1).trans (t2.mono (by omega))
  have s2 := t2.size
  go_wp2_with fail
  refine (readCount_bad F D N cap off a ev w2 (by rw [hw2.tape]; exact HF.out) h2 hbad hb hoff).mono ?_
  rintro e w3 ⟨rfl, p, h3, t3⟩
  have k3 : Pair w3 w.heap.size 0 0 := k2.of_block (t3.block _ (by omega) (by omega))
  have hw3 : But w.heap.size D w w3 := hw2.trans (t3.mono (by omega))
  have s3 : w.heap.size + 1 ≤ w3.heap.size := by have := t3.size; omega
  clear k1 k2 h2 t2 t3 hw2 hb1 hbad
  go_wp2_with fail
  refine (within_any d 0 _ bd (by omega)).mono ?_
  rintro e w4 ⟨rfl, hb4⟩
  have p3 := Pair.new w3 d 0
  have b3' := (Below.refl w3.heap.size w3).alloc (Nat.le_refl _) (.cells #[.int .u8 d, .int .u64 0] 27)
  have p4 := p3.of_block (hb4.block _ p3.lt)
  have hb5 : Below w3.heap.size w3 w4 := b3'.trans (hb4.mono (by simp))
  have k4 := k3.of_block (hb5.block _ (by omega))
  have HD4 := hide (h3.below hb5 h3.lt)
  have HW4 := hide (hw3.trans (But.of_below (hb5.mono hw3.size)))
  have HE := hide (err_any _ _ _ _ _ HD4.out)
  have q0 := p4.c0
  have q1 := p4.c1
  have r0 := k4.c0
  have r1 := k4.c1
  have r2 := k4.fz 0
  have r3 := k4.fz 1
  clear p3 p4 k4 k3 hb5 hb4 b3' h3 hw3
  have hne1 : w3.heap.size ≠ w.heap.size := by omega
  cases hf : fits d 0 with
  | true =>
    go_wp2
    refine bodyPost_ret (v := .agg #[.int .u8 (d : Int), .int .u64 0]) (by simp [results, Ybaf.results6, go_sem, r0, r1]) rfl ⟨rfl, off, p, ?_, hoff, (HW4.out.setCellUp (Nat.le_refl _) _ _).setCellUp (Nat.le_refl _) _ _⟩
    exact (HD4.out.of_block (Below.heap_setCell _ _ _ _ (by show D ≠ w.heap.size; omega))).of_block (Below.heap_setCell _ _ _ _ (by show D ≠ w.heap.size; omega))
  | false =>
    go_wp2_with fail
    refine HE.out.mono ?_
    rintro e w5 ⟨rfl, rfl⟩
    go_wp2
    refine bodyPost_ret (v := .agg #[.int .u8 (d : Int), .int .u64 0]) (by simp [results, Ybaf.results6, go_sem, r0, r1]) rfl ⟨rfl, off, p, ?_, hoff, (HW4.out.setCellUp (Nat.le_refl _) _ _).setCellUp (Nat.le_refl _) _ _⟩
    exact (HD4.out.of_block (Below.heap_setCell _ _ _ _ (by show D ≠ w.heap.size; omega))).of_block (Below.heap_setCell _ _ _ _ (by show D ≠ w.heap.size; omega))

set_option maxRecDepth 1000000 in
set_option maxHeartbeats 1000000 in
theorem readPosition_no (F : Interp) (D g p N cap off : Nat) (d a0 a1 a2 a3 a4 c : Nat) (w : World) (hF : F.answers w.tape) (h : Dec w D (.slice (some ⟨g, p, none⟩) N cap) off .nilIface) (hn : off + 6 ≤ N) (hN : N ≤ cap) (hb : N ≤ 100000) (hg : g ≠ D)
    (bd : d < 256) (b0 : a0 < 256) (b1 : a1 < 256) (b2 : a2 < 256) (b3 : a3 < 256) (b4 : a4 < 256) (hc : c = be5 a0 a1 a2 a3 a4) (hf : fits d c = false)
    (hx0 : w.cell? ⟨g, p + off, none⟩ = some (.int .u8 (d : Int)))
    (hx : ∀ j, j < 5 → w.cell? ⟨g, p + (off + 1) + j, none⟩ = some (.int .u8 ([a0, a1, a2, a3, a4].getD j 0 : Nat))) :
    Calls Ybaf.prog 6 #[.pointer (some ⟨D, 0, none⟩)] w fun en w' => en = .returned (.agg #[.int .u8 (d : Int), .int .u64 (c : Int)]) ∧ ∃ q, Dec w' D (.slice (some ⟨g, p, none⟩) N cap) (off + 6) (.iface 53 (.pointer q)) ∧ But w.heap.size D w w' := by
  have hgl : g < w.heap.size := World.block_lt_of_cell? w _ hx0
  have hDl : D < w.heap.size := h.lt
  have hcl := be5_lt a0 a1 a2 a3 a4 b0 b1 b2 b3 b4
  rw [← hc] at hcl
  have H0 := hide h
  have HX0 := hide hx0
  have HX := hide hx
  have HC := hide hc
  have HF := hide hf
  have HFA := hide hF
  clear h hx0 hx hc hf hF
  go_enter Ybaf.func6, Ybaf.ntmps6
  have hb1 := (Below.refl w.heap.size w).alloc (Nat.le_refl _) (.cells #[.int .u8 0, .int .u64 0] 27)
  have k1 := Pair.new w 0 0
  have s1 : (w.alloc (.cells #[.int .u8 0, .int .u64 0] 27)).heap.size = w.heap.size + 1 := by simp
  go_wp2_with fail
  refine (uint8_ok D g p N cap off d _ (H0.out.below hb1 hDl) (by omega) hN hb hg ((hb1.cell (p := ⟨g, p + off, none⟩) hgl).trans HX0.out)).mono ?_
  rintro e w2 ⟨rfl, h2, t2, s2⟩
  generalize w.alloc (.cells #[.int .u8 0, .int .u64 0] 27) = w1 at *
  have k2 : Pair w2 w.heap.size 0 0 := k1.of_block (t2.block _ (by omega) (by omega))
  have hw2 : But w.heap.size D w w2 := (But.of_below hb1).trans (t2.mono (by omega))
  go_wp2_with fail
  refine (readCount_ok D g p N cap (off + 1) a0 a1 a2 a3 a4 w2 h2 (by omega) hN hb hg b0 b1 b2 b3 b4 (fun j hj => (hw2.cell (p := ⟨g, p + (off + 1) + j, none⟩) hgl hg).trans (HX.out j hj))).mono ?_
  rintro e w3 ⟨rfl, h3, t3⟩
  rw [← HC.out]
  have k3 : Pair w3 w.heap.size 0 0 := k2.of_block (t3.block _ (by omega) (by omega))
  have hw3 : But w.heap.size D w w3 := hw2.trans (t3.mono (by omega))
  have s3 : w.heap.size + 1 ≤ w3.heap.size := by have := t3.size; omega
  clear k1 k2 h2 t2 t3 hw2 hb1
  go_wp2_with fail
  refine (within_any d c _ bd hcl).mono ?_
  rintro e w4 ⟨rfl, hb4⟩
  have p3 := Pair.new w3 d c
  have b3' := (Below.refl w3.heap.size w3).alloc (Nat.le_refl _) (.cells #[.int .u8 d, .int .u64 c] 27)
  have p4 := p3.of_block (hb4.block _ p3.lt)
  have hb5 : Below w3.heap.size w3 w4 := b3'.trans (hb4.mono (by simp))
  have k4 := k3.of_block (hb5.block _ (by omega))
  have HD4 := hide (h3.below hb5 h3.lt)
  have HW4 := hide (hw3.trans (But.of_below (hb5.mono hw3.size)))
  have HE := hide (err_any _ _ _ _ _ HD4.out)
  have q0 := p4.c0
  have q1 := p4.c1
  have HK4 := hide k4
  have HP4 := hide p4
  clear p3 p4 k4 k3 hb5 hb4 b3' h3 hw3
  rw [HF.out]
  have hne1 : w3.heap.size ≠ w.heap.size := by omega
  go_wp2_with fail
  refine HE.out.mono ?_
  rintro e w5 ⟨rfl, rfl⟩
  go_wp2_with fail
  refine (failf_two F D (.slice (some ⟨g, p, none⟩) N cap) (off + 1 + 5) w5.heap.size d c _ ?_ ?_ ?_ ?_).mono ?_
  · show F.answers w5.tape
    rw [HW4.out.tape]
    exact HFA.out
  · exact HD4.out.below ((Below.refl w5.heap.size w5).alloc (Nat.le_refl _) _) HD4.out.lt
  · exact (World.cell?_alloc_at _ _ _ _ rfl).trans rfl
  · exact (World.cell?_alloc_at _ _ _ _ rfl).trans rfl
  rintro e w6 ⟨rfl, q, h6, t6⟩
  have hb6 := (Below.refl w5.heap.size w5).alloc (Nat.le_refl _) (.cells #[.iface 5 (.int .u8 (d : Int)), .iface 25 (.int .u64 (c : Int))] 20)
  have k5 := HK4.out.of_block (hb6.block _ HK4.out.lt)
  have p5 := HP4.out.of_block (hb6.block _ HP4.out.lt)
  have k6 := k5.of_block (t6.block _ k5.lt (by omega))
  have p6 := p5.of_block (t6.block _ p5.lt (by omega))
  have z0 := p6.c0
  have z1 := p6.c1
  have r0 := k6.c0
  have r1 := k6.c1
  have r2 := k6.fz 0
  have r3 := k6.fz 1
  have s5 := HW4.out.size
  have HW6 := hide (HW4.out.trans ((But.of_below (hb6.mono s5)).trans (t6.mono (by simp; omega))))
  clear k5 p5 k6 p6 t6 hb6
  go_wp2
  refine bodyPost_ret (v := .agg #[.int .u8 (d : Int), .int .u64 (c : Int)]) (by simp [results, Ybaf.results6, go_sem, r0, r1]) rfl ⟨rfl, q, ?_, (HW6.out.setCellUp (Nat.le_refl _) _ _).setCellUp (Nat.le_refl _) _ _⟩
  exact (h6.of_block (Below.heap_setCell _ _ _ _ (by show D ≠ w.heap.size; omega))).of_block (Below.heap_setCell _ _ _ _ (by show D ≠ w.heap.size; omega))

end Go.Proofs.YbulkbfiyFmt
