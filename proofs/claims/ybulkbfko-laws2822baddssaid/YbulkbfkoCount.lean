/- countBytes by its contract. -/
import Derived.Test.YbulkbfkoC3
namespace Go.Proofs.Ybulkbfko
open Go.RowKit
set_option linter.unusedVariables false

/-- The counts behind countBytes. -/
def counted (x : Nat → Nat) (n : Nat) (c0 : Nat → Int) (j : Nat) : Int := if j < 256 then IntKind.i64.wrap (c0 j + (occ x j n : Int)) else c0 j

/-- A slice of n bytes, lying below B. -/
def Bytes (w : World) (B : Nat) (a : Option Addr) (n : Nat) (x : Nat → Nat) : Prop := 0 < n → ∃ tb toff, a = some ⟨tb, toff, none⟩ ∧ tb < B ∧ ∀ j, j < n → w.cell? ⟨tb, toff + j, none⟩ = some (.int .u8 (x j : Int))

theorem Bytes.apart {w w' : World} {B R : Nat} {a : Option Addr} {n : Nat} {x : Nat → Nat} (h : Bytes w B a n x) (hb : Below B w w') (hR : B ≤ R) : 0 < n → ∃ tb toff, a = some ⟨tb, toff, none⟩ ∧ tb ≠ R ∧ ∀ j, j < n → w'.cell? ⟨tb, toff + j, none⟩ = some (.int .u8 (x j : Int)) := fun hn => by
  obtain ⟨tb, toff, e, hl, hc⟩ := h hn
  exact ⟨tb, toff, e, by omega, fun j hj => (hb.cell (p := ⟨tb, toff + j, none⟩) hl).trans (hc j hj)⟩
theorem Bytes.below {w w' : World} {B : Nat} {a : Option Addr} {n : Nat} {x : Nat → Nat} (h : Bytes w B a n x) (hb : Below B w w') : Bytes w' B a n x := fun hn => by
  obtain ⟨tb, toff, e, hl, hc⟩ := h hn
  exact ⟨tb, toff, e, hl, fun j hj => (hb.cell (p := ⟨tb, toff + j, none⟩) hl).trans (hc j hj)⟩

theorem Kept.belowOf {b B : Nat} {w w' : World} (h : Kept b w w') (hB : B ≤ b) : Below B w w' := h.below (Below.refl _ _) hB

set_option maxRecDepth 1000000 in
set_option maxHeartbeats 4000000 in
theorem countBytes_any (C : Nat) (c0 : Nat → Int) (a : Option Addr) (n cap B : Nat) (x : Nat → Nat) (w : World) (hC : Ints w C 22 286 c0) (hn : n ≤ 65536) (hx : ∀ i, x i < 256) (hB : B ≤ C) (hd : Bytes w B a n x) :
    Calls Yba.prog 6 #[.pointer (some ⟨C, 0, none⟩), .slice a n cap] w fun e w' => e = .returned (.tuple #[]) ∧ Ints w' C 22 286 (counted x n c0) ∧ But w.heap.size C w w' := by
  have HC := hide hC
  have HX := hide hx
  have HD := hide hd
  have hCl := hC.lt
  clear hC hx hd
  go_enter Yba.func6, Yba.ntmps6
  go_wp2_with (first
    | (refine wpList_zeros rfl 32 1024 rfl zeros32 ?_; intro w1 r1 b1; have HR1 := hide r1; have HB1 := hide b1; clear r1 b1))
  refine four_loop a n cap w.heap.size x w1 _ ?_ hn HX.out (HD.out.apart (HB1.out.mono (by omega)) (by omega)) HR1.out
  intros
  rename_i i' T w2 h2
  obtain ⟨hi, hT, hr2, hk2⟩ := h2
  go_wp2
  refine rest_loop a n cap w.heap.size i' x T w2 _ ?_ hn hi HX.out (HD.out.apart ((HB1.out.mono (by omega)).trans (hk2.belowOf (by omega))) (by omega)) hT hr2
  intros
  rename_i u5 T' w3 h3
  obtain ⟨hT', hr3, hk3⟩ := h3
  have hb3 : Below w.heap.size w w3 := HB1.out.trans ((hk2.belowOf (Nat.le_refl _)).trans (hk3.belowOf (Nat.le_refl _)))
  go_wp2
  refine add_loop C w.heap.size n x c0 T' w3 _ ?_ hn (by omega) hT' hr3 (HC.out.of_block (hb3.block C hCl))
  intros
  rename_i w4 h4
  obtain ⟨hr4, hk4⟩ := h4
  go_wp2
  go_end0
  refine ⟨rfl, hr4.congr (fun j hj => ?_), (But.of_below hb3).trans (hk4.mono hb3.size)⟩
  unfold added counted
  by_cases h : j < 256
  · rw [if_pos h, if_pos h, hT'.2 j h]
  · rw [if_neg h, if_neg h]

end Go.Proofs.Ybulkbfko
