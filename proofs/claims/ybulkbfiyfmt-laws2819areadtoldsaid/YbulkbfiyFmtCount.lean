/- Five bytes, the count that they spell. -/
import Derived.Test.YbulkbfiyFmtBase
import Derived.Lib.EndianBits
namespace Go.Proofs.YbulkbfiyFmt
open Go.RowKit
attribute [local go_sem] eqNil22
set_option linter.unusedVariables false

theorem Kept.but {b B D : Nat} {w w' : World} (h : Kept b w w') (hB : B ≤ b) : But B D w w' := ⟨h.os, h.tape, h.output, by rw [h.size]; exact Nat.le_refl _, fun k hk _ => h.block k (by omega)⟩

/-- Five bytes, the greatest first. -/
def be5 (a0 a1 a2 a3 a4 : Nat) : Nat := a0 * 4294967296 + a1 * 16777216 + a2 * 65536 + a3 * 256 + a4

set_option maxRecDepth 1000000 in
set_option maxHeartbeats 4000000 in
theorem uint64_any (X : Nat) (a0 a1 a2 a3 a4 : Nat) (w : World)
    (x0 : w.cell? ⟨X, 0, none⟩ = some (.int .u8 0)) (x1 : w.cell? ⟨X, 1, none⟩ = some (.int .u8 0)) (x2 : w.cell? ⟨X, 2, none⟩ = some (.int .u8 0))
    (x3 : w.cell? ⟨X, 3, none⟩ = some (.int .u8 (a0 : Int))) (x4 : w.cell? ⟨X, 4, none⟩ = some (.int .u8 (a1 : Int))) (x5 : w.cell? ⟨X, 5, none⟩ = some (.int .u8 (a2 : Int))) (x6 : w.cell? ⟨X, 6, none⟩ = some (.int .u8 (a3 : Int))) (x7 : w.cell? ⟨X, 7, none⟩ = some (.int .u8 (a4 : Int)))
    (b0 : a0 < 256) (b1 : a1 < 256) (b2 : a2 < 256) (b3 : a3 < 256) (b4 : a4 < 256) :
    Calls Ybaf.prog 15 #[.agg #[], .slice (some ⟨X, 0, none⟩) 8 8] w fun en w' => en = .returned (.int .u64 (be5 a0 a1 a2 a3 a4 : Int)) ∧ Below w.heap.size w w' := by
  have hX : X < w.heap.size := World.block_lt_of_cell? w _ x0
  have hb := (Below.refl w.heap.size w).alloc (Nat.le_refl _) (.cells #[] 45)
  have d0 := (hb.cell (p := ⟨X, 0, none⟩) hX).trans x0
  have d1 := (hb.cell (p := ⟨X, 1, none⟩) hX).trans x1
  have d2 := (hb.cell (p := ⟨X, 2, none⟩) hX).trans x2
  have d3 := (hb.cell (p := ⟨X, 3, none⟩) hX).trans x3
  have d4 := (hb.cell (p := ⟨X, 4, none⟩) hX).trans x4
  have d5 := (hb.cell (p := ⟨X, 5, none⟩) hX).trans x5
  have d6 := (hb.cell (p := ⟨X, 6, none⟩) hX).trans x6
  have d7 := (hb.cell (p := ⟨X, 7, none⟩) hX).trans x7
  clear x0 x1 x2 x3 x4 x5 x6 x7 hb
  go_enter Ybaf.func15, Ybaf.ntmps15
  go_wp2
  go_quiet (fail)
  go_wp2
  go_ret
  refine ⟨?_, ((Below.refl _ w).alloc (Nat.le_refl _) _).trans ⟨rfl, rfl, rfl, Nat.le_refl _, fun _ _ => rfl⟩⟩
  simp (disch := omega) only [u64_or8, u64_or16, u64_or24, u64_or32, u64_or40]
  show Ending.returned (.int .u64 ((a4 : Int) + a3 * 256 + a2 * 65536 + a1 * 16777216 + a0 * 4294967296 + 0 + 0 + 0)) = _
  congr 2
  unfold be5
  omega

set_option maxHeartbeats 400000 in
theorem octets_ok (D g p N cap off : Nat) (x : Nat → Int) (w : World) (h : Dec w D (.slice (some ⟨g, p, none⟩) N cap) off .nilIface) (hn : off + 5 ≤ N) (hN : N ≤ cap) (hb : N ≤ 100000) (hg : g ≠ D) (hx : ∀ j, j < 5 → w.cell? ⟨g, p + off + j, none⟩ = some (.int .u8 (x j))) :
    Calls Ybaf.prog 14 #[.pointer (some ⟨D, 0, none⟩), .int .i64 5] w fun en w' => ∃ k c, en = .returned (.slice (some ⟨k, 0, none⟩) 5 c) ∧ w.heap.size ≤ k ∧ (∀ j, j < 5 → w'.cell? ⟨k, j, none⟩ = some (.int .u8 (x j))) ∧ Dec w' D (.slice (some ⟨g, p, none⟩) N cap) (off + 5) .nilIface ∧ But w.heap.size D w w' := by
  have HT := hide (take_ok D g p N cap off 5 w h hn (by omega) hN hb)
  have hgl : g < w.heap.size := World.block_lt_of_cell? w _ (hx 0 (by omega))
  have hDl : D < w.heap.size := h.lt
  have HX := hide hx
  clear h hx
  go_enter Ybaf.func14, Ybaf.ntmps14
  go_wp2_with fail
  refine HT.out.mono ?_
  rintro e w2 ⟨rfl, h2, h3, h4⟩
  have HC := hide (clone_5 g (p + off) (cap - off) x w2 (fun j hj => (h3.cell (p := ⟨g, p + off + j, none⟩) hgl hg).trans (HX.out j hj)))
  go_wp2_with fail
  refine HC.out.mono ?_
  rintro e w3 ⟨k, c, rfl, hk, hcs, hbe⟩
  go_wp2
  go_ret
  exact ⟨k, c, rfl, by omega, hcs, h2.below hbe (by omega), h3.trans (But.of_below (hbe.mono (by omega)))⟩

set_option maxHeartbeats 400000 in
theorem octets_err (D : Nat) (s : Value) (ty : TypeId) (ev : Value) (off : Nat) (w : World) (h : Dec w D s off (.iface ty ev)) : Calls Ybaf.prog 14 #[.pointer (some ⟨D, 0, none⟩), .int .i64 5] w fun en w' => en = .returned (.slice none 0 0) ∧ w' = w := by
  have HT := hide (take_err D s ty ev off 5 w h)
  clear h
  go_enter Ybaf.func14, Ybaf.ntmps14
  go_wp2_with fail
  refine HT.out.mono ?_
  rintro e w2 ⟨rfl, rfl⟩
  go_wp2_with fail
  refine (clone_nil w2).mono ?_
  rintro e w2 ⟨rfl, rfl⟩
  go_wp2
  go_ret
  exact ⟨rfl, rfl⟩

set_option maxRecDepth 1000000 in
set_option maxHeartbeats 1000000 in
theorem readCount_ok (D g p N cap off : Nat) (a0 a1 a2 a3 a4 : Nat) (w : World) (h : Dec w D (.slice (some ⟨g, p, none⟩) N cap) off .nilIface) (hn : off + 5 ≤ N) (hN : N ≤ cap) (hb : N ≤ 100000) (hg : g ≠ D)
    (b0 : a0 < 256) (b1 : a1 < 256) (b2 : a2 < 256) (b3 : a3 < 256) (b4 : a4 < 256)
    (hx : ∀ j, j < 5 → w.cell? ⟨g, p + off + j, none⟩ = some (.int .u8 ([a0, a1, a2, a3, a4].getD j 0 : Nat))) :
    Calls Ybaf.prog 10 #[.pointer (some ⟨D, 0, none⟩)] w fun en w' => en = .returned (.int .u64 (be5 a0 a1 a2 a3 a4 : Int)) ∧ Dec w' D (.slice (some ⟨g, p, none⟩) N cap) (off + 5) .nilIface ∧ But w.heap.size D w w' := by
  have hgl : g < w.heap.size := World.block_lt_of_cell? w _ (hx 0 (by omega))
  have hDl : D < w.heap.size := h.lt
  have hb0 := (Below.refl w.heap.size w).alloc (Nat.le_refl _) (.cells #[.int .u8 0, .int .u8 0, .int .u8 0, .int .u8 0, .int .u8 0, .int .u8 0, .int .u8 0, .int .u8 0] 43)
  have h0 := h.below hb0 hDl
  have hx0 : ∀ j, j < 5 → (w.alloc (.cells #[.int .u8 0, .int .u8 0, .int .u8 0, .int .u8 0, .int .u8 0, .int .u8 0, .int .u8 0, .int .u8 0] 43)).cell? ⟨g, p + off + j, none⟩ = some (.int .u8 ([a0, a1, a2, a3, a4].getD j 0 : Nat)) := fun j hj => (hb0.cell (p := ⟨g, p + off + j, none⟩) hgl).trans (hx j hj)
  have HO := hide (octets_ok D g p N cap off (fun j => ([a0, a1, a2, a3, a4].getD j 0 : Nat)))
  have HD := hide h0
  have HX := hide hx0
  have hr0 : (w.alloc (.cells #[.int .u8 0, .int .u8 0, .int .u8 0, .int .u8 0, .int .u8 0, .int .u8 0, .int .u8 0, .int .u8 0] 43)).rowIs w.heap.size 43 8 (fun _ => .int .u8 0) := World.rowIs_alloc w _ 43 _ (fun i hi => by
    have hi8 : i < 8 := hi
    match i, hi8 with
    | 0, _ => rfl
    | 1, _ => rfl
    | 2, _ => rfl
    | 3, _ => rfl
    | 4, _ => rfl
    | 5, _ => rfl
    | 6, _ => rfl
    | 7, _ => rfl)
  have HR := hide hr0
  have HB := hide hb0
  clear h h0 hx hx0 hb0 hr0
  go_enter Ybaf.func10, Ybaf.ntmps10
  go_wp2
  go_region_with (go_at_call 14; refine (HO.out _ ?_ hn hN hb hg ?_).mono ?_; exact HD.out; exact HX.out; rintro e w3 ⟨k, c, rfl, hk, hcs, hd, hbut⟩; obtain ⟨w4, hrun, hrow, hkept⟩ := run_copy_is (P := Ybaf.prog) w3 22 22 3 5 w.heap.size 3 5 5 k 0 5 c 43 8 5 (fun _ => .int .u8 0) (fun j => .int .u8 ([a0, a1, a2, a3, a4].getD j 0 : Nat)) Ybaf.underlying22 (by kernel_rfl) (HR.out.of_block (hbut.block _ (by simp) (by omega))) (by decide) (fun j hj => by rw [Nat.zero_add]; exact hcs j hj) (by decide) (fun _ _ => rfl); clear hcs)
  all_goals
    have x0 : w4.cell? ⟨w.heap.size, 0, none⟩ = some (.int .u8 0) := hrow.cell (by omega)
    have x1 : w4.cell? ⟨w.heap.size, 1, none⟩ = some (.int .u8 0) := hrow.cell (by omega)
    have x2 : w4.cell? ⟨w.heap.size, 2, none⟩ = some (.int .u8 0) := hrow.cell (by omega)
    have x3 : w4.cell? ⟨w.heap.size, 3, none⟩ = some (.int .u8 (a0 : Int)) := hrow.cell (by omega)
    have x4 : w4.cell? ⟨w.heap.size, 4, none⟩ = some (.int .u8 (a1 : Int)) := hrow.cell (by omega)
    have x5 : w4.cell? ⟨w.heap.size, 5, none⟩ = some (.int .u8 (a2 : Int)) := hrow.cell (by omega)
    have x6 : w4.cell? ⟨w.heap.size, 6, none⟩ = some (.int .u8 (a3 : Int)) := hrow.cell (by omega)
    have x7 : w4.cell? ⟨w.heap.size, 7, none⟩ = some (.int .u8 (a4 : Int)) := hrow.cell (by omega)
    have HU := hide (fun W => uint64_any w.heap.size a0 a1 a2 a3 a4 W)
    have H4 := hide (show Dec w4 D (Value.slice (some { block := g, off := p }) N cap) (off + 5) Value.nilIface from hd.of_block (hkept.block D (by omega)))
    have HW := hide (show But w.heap.size D w w4 from ((But.of_below HB.out).drew).trans ((hbut.mono (by simp)).trans (hkept.but (Nat.le_refl _))))
    go_wp2
    go_region_with (go_at_call 15; refine (HU.out _ ?_ ?_ ?_ ?_ ?_ ?_ ?_ ?_ b0 b1 b2 b3 b4).mono ?_; exact x0; exact x1; exact x2; exact x3; exact x4; exact x5; exact x6; exact x7; rintro e w5 ⟨rfl, hb5⟩)
    all_goals
      go_wp2
      go_ret
      have hb6 : Below w4.heap.size w4 w5 := ⟨hb5.os, hb5.tape, hb5.output, hb5.size, hb5.block⟩
      exact ⟨rfl, H4.out.below hb6 H4.out.lt, HW.out.trans (But.of_below (hb6.mono HW.out.size))⟩

/-- Does a tree of depth 40 have the place? -/
def fits (d c : Nat) : Bool := decide (d ≤ 40) && decide (c / 2 ^ d = 0)
theorem fits_beq (d c : Nat) : ((c : Int) / 2 ^ d == 0) = decide (c / 2 ^ d = 0) := by
  have e : ((c : Int) / 2 ^ d) = ((c / 2 ^ d : Nat) : Int) := by push_cast; rfl
  rw [e]
  generalize c / 2 ^ d = q
  by_cases h : q = 0
  · simp [h]
  · simp [h]

set_option maxHeartbeats 1000000 in
theorem within_any (d c : Nat) (w : World) (hd : d < 256) (hc : c < 1099511627776) :
    Calls Ybaf.prog 11 #[.agg #[.int .u8 (d : Int), .int .u64 (c : Int)], .int .u8 40] w fun en w' => en = .returned (.bool (fits d c)) ∧ Below w.heap.size w w' := by
  by_cases h : d ≤ 40
  · have hd1 : decide ((d : Int) ≤ 40) = true := by simp; omega
    have e : fits d c = ((c : Int) / 2 ^ d == 0) := by rw [fits_beq, fits, decide_eq_true h, Bool.true_and]
    rw [e]
    go_enter Ybaf.func11, Ybaf.ntmps11
    go_wp2
    go_ret
    exact ⟨rfl, (Below.refl _ _).alloc (Nat.le_refl _) _⟩
  · have hd1 : decide ((d : Int) ≤ 40) = false := by simp; omega
    have e : fits d c = false := by simp [fits, h]
    rw [e]
    go_enter Ybaf.func11, Ybaf.ntmps11
    go_wp2
    go_ret
    exact ⟨rfl, (Below.refl _ _).alloc (Nat.le_refl _) _⟩

theorem be5_lt (a0 a1 a2 a3 a4 : Nat) (b0 : a0 < 256) (b1 : a1 < 256) (b2 : a2 < 256) (b3 : a3 < 256) (b4 : a4 < 256) : be5 a0 a1 a2 a3 a4 < 1099511627776 := by unfold be5; omega

end Go.Proofs.YbulkbfiyFmt
