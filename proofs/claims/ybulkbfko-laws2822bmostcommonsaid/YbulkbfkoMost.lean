/- mostCommon by its contract; LawS2822BMostCommon, walked. -/
import Derived.Test.YbulkbfkoM3
namespace Go.Proofs.Ybulkbfko
open Go.RowKit
set_option linter.unusedVariables false

theorem u8_id (m : Nat) (h : m < 256) : IntKind.u8.wrap (m : Int) = (m : Int) := by
  have e : IntKind.u8.wrap (m : Int) = (m : Int) % 256 := by simp [IntKind.wrap, IntKind.signed, IntKind.bits]
  rw [e]
  omega

set_option maxRecDepth 1000000 in
set_option maxHeartbeats 4000000 in
theorem mostCommon_any (a : Option Addr) (n cap : Nat) (x : Nat → Nat) (w : World) (hn : n ≤ 65536) (hx : ∀ i, x i < 256) (hd : Bytes w w.heap.size a n x) :
    Calls Yba.prog 8 #[.slice a n cap] w fun e w' => e = .returned (.int .u8 (bestTo (fun j => (occ x j n : Int)) 256 : Int)) ∧ Below w.heap.size w w' := by
  have HX := hide hx
  have HD := hide hd
  clear hx hd
  go_enter Yba.func8, Yba.ntmps8
  go_wp2_with (first
    | (refine wpList_zeros rfl 22 286 rfl zeros22 ?_; intro w1 r1 b1; have HR1 := hide r1; have HB1 := hide b1; clear r1 b1))
  refine (countBytes_any w.heap.size _ a n cap w.heap.size x w1 HR1.out hn HX.out (Nat.le_refl _) (HD.out.below HB1.out)).mono ?_
  rintro e w2 ⟨rfl, r2, b2⟩
  have hb2 : Below w.heap.size w w2 := HB1.out.trans (b2.below HB1.out.size (Nat.le_refl _))
  have c0 := r2.cell (i := 0) (by omega)
  have e1 : ∀ j, j < 256 → counted x n (fun _ => 0) j = (occ x j n : Int) := fun j hj => by
    have := occ_le x j n
    unfold counted
    rw [if_pos hj]
    show IntKind.i64.wrap (0 + (occ x j n : Int)) = _
    rw [IntWalk.i64_in _ ⟨by omega, by omega⟩]
    omega
  have hbest := bestTo_congr _ _ 256 e1
  have hm := bestTo_lt' (fun j => (occ x j n : Int)) 256 (by omega)
  rw [← hbest] at hm
  have hw := u8_id _ hm
  have HBE := hide hbest
  clear hbest e1 c0
  go_wp2
  refine most_loop w.heap.size _ w2 _ ?_ r2
  intros
  rename_i w3 h3
  subst h3
  generalize bestTo (counted x n fun _ => 0) 256 = m at *
  go_wp2
  go_ret
  exact ⟨by rw [← HBE.out]; rfl, hb2⟩

set_option maxRecDepth 1000000 in
set_option maxHeartbeats 1000000 in
theorem most_big (a : Option Addr) (n cap : Nat) (w : World) (h : 65536 < n) : Calls Yba.prog 4 #[.slice a n cap] w fun e w' => e = .returned (.bool true) ∧ Below w.heap.size w w' := by
  have hd : decide ((65536 : Int) < (n : Int)) = true := by simp; omega
  go_enter Yba.func4, Yba.ntmps4
  go_wp2
  go_ret
  exact ⟨rfl, Below.refl _ _⟩

set_option maxRecDepth 1000000 in
set_option maxHeartbeats 4000000 in
theorem most_run (a : Option Addr) (n cap : Nat) (x : Nat → Nat) (w : World) (hn : n ≤ 65536) (hx : ∀ i, x i < 256) (hd : Bytes w w.heap.size a n x) :
    Calls Yba.prog 4 #[.slice a n cap] w fun e w' => e = .returned (.bool true) ∧ Below w.heap.size w w' := by
  have hd0 : decide ((65536 : Int) < (n : Int)) = false := by simp; omega
  have HX := hide hx
  have HD := hide hd
  clear hx hd
  go_enter Yba.func4, Yba.ntmps4
  go_wp2_with (first
    | (refine wpList_zeros rfl 29 256 rfl zeros29 ?_; intro w1 r1 b1; have HR1 := hide r1; have HB1 := hide b1; clear r1 b1))
  refine one_loop a n cap w.heap.size x w1 _ ?_ hn HX.out (HD.out.apart HB1.out (Nat.le_refl _)) HR1.out
  intros
  rename_i T w2 h2
  obtain ⟨hT, r2, k2⟩ := h2
  have hb2 : Below w.heap.size w w2 := HB1.out.trans (k2.belowOf (Nat.le_refl _))
  have hbest := bestTo_congr T (fun j => (occ x j n : Int)) 256 hT
  have hm := bestTo_lt' (fun j => (occ x j n : Int)) 256 (by omega)
  rw [← hbest] at hm
  have hw := u8_id _ hm
  have HB := hide hbest
  clear hbest hT
  go_wp2
  refine best_loop w.heap.size T w2 _ ?_ r2
  intros
  rename_i w3 h3
  have hb3 : Below w.heap.size w w3 := hb2.trans (h3.mono hb2.size)
  go_wp2_with fail
  refine (mostCommon_any a n cap x w3 hn HX.out ?_).mono ?_
  · intro h0
    obtain ⟨tb, toff, e, hl, hc⟩ := HD.out.below hb3 h0
    exact ⟨tb, toff, e, Nat.lt_of_lt_of_le hl hb3.size, hc⟩
  rintro e w4 ⟨rfl, b4⟩
  rw [← HB.out]
  generalize bestTo T 256 = m at *
  go_wp2
  go_ret
  exact ⟨by simp, hb3.trans (b4.mono hb3.size)⟩

end Go.Proofs.Ybulkbfko
