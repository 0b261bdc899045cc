/- LawS2822BAdds, walked. -/
import Derived.Test.YbulkbfkoA2
import Derived.Test.YbulkbfkoArr
import Derived.Test.YbulkbfkoSrc
namespace Go.Proofs.Ybulkbfko
open Go.RowKit
attribute [local go_sem] eqNil23
set_option linter.unusedVariables false

set_option maxRecDepth 1000000 in
set_option maxHeartbeats 1000000 in
theorem adds_big (cs : Array Value) (a : Option Addr) (n cap : Nat) (w : World) (h : 65536 < n) : Calls Yba.prog 3 #[.agg cs, .slice a n cap] w fun e w' => e = .returned (.bool true) ∧ Below w.heap.size w w' := by
  have hd : decide ((65536 : Int) < (n : Int)) = true := by simp; omega
  go_enter Yba.func3, Yba.ntmps3
  go_wp2_with (first
    | (refine wpList_boxArr rfl (.tmp 0) rfl cs rfl ?_; intro w1 r1 b1; have HB1 := hide b1; clear r1 b1))
  go_ret
  exact ⟨rfl, HB1.out⟩

set_option maxRecDepth 1000000 in
set_option maxHeartbeats 4000000 in
theorem adds_run (cs : Array Value) (ci : Nat → Int) (a : Option Addr) (n cap : Nat) (x : Nat → Nat) (w : World) (hcs : IsArr cs ci) (hci : ∀ i, -9223372036854775808 ≤ ci i ∧ ci i ≤ 9223372036854775807) (hn : n ≤ 65536) (hx : ∀ i, x i < 256) (hd : Bytes w w.heap.size a n x) (hs : Src w (.slice a n cap) (bs n fun i => (x i : Int))) :
    Calls Yba.prog 3 #[.agg cs, .slice a n cap] w fun e w' => e = .returned (.bool true) ∧ Below w.heap.size w w' := by
  have hd0 : decide ((65536 : Int) < (n : Int)) = false := by simp; omega
  have HX := hide hx
  have HD := hide hd
  have HS := hide hs
  have HA := hide hcs
  have HZ : Hid (∀ j, counted x 0 ci j = ci j) := hide (fun j => by
    have := hci j
    unfold counted
    split
    · show IntKind.i64.wrap (ci j + 0) = ci j
      rw [Int.add_zero]
      exact IntWalk.i64_in _ ⟨by omega, by omega⟩
    · rfl)
  clear hx hd hs hcs hci
  go_enter Yba.func3, Yba.ntmps3
  go_wp2_with (first
    | (refine wpList_boxArr rfl (.tmp 0) rfl cs rfl ?_; intro w1 r1 b1; have HI1 := hide r1; have HB1 := hide b1; clear r1 b1))
  have hIl := HI1.out.lt
  refine (clone_any a n cap _ w1 hn (HS.out.below HB1.out (Nat.le_refl _))).mono ?_
  rintro e w2 ⟨b', cp, rfl, hs2, hb2⟩
  have HS2 := hide hs2
  have HI2 := hide (HI1.out.of_block (hb2.block _ hIl))
  have HB2 := hide (HB1.out.trans (hb2.mono HB1.out.size))
  have s12 := hb2.size
  clear hs2 hb2
  go_wp2_with (first
    | (refine wpList_loadArr rfl (.tmp 2) rfl w.heap.size cs rfl HI2.out HA.out.1 ?_)
    | (refine wpList_zeros rfl 22 286 rfl zeros22 ?_; intro w3 r3 b3; have HR3 := hide r3; have HB3 := hide b3; clear r3 b3)
    | (refine wpList_storeArr rfl (.tmp 6) (.tmp 15) rfl rfl w2.heap.size cs ci _ rfl rfl HR3.out HA.out ?_; intro w4 r4 k4; have HR4 := hide r4; have HK4 := hide k4; clear r4 k4))
  have hB4 : Below w2.heap.size w2 w4 := HB3.out.trans (HK4.out.belowOf (Nat.le_refl _))
  have hW4 : Below w.heap.size w w4 := HB2.out.trans (hB4.mono HB2.out.size)
  refine (countBytes_any w2.heap.size ci a n cap w.heap.size x w4 (HR4.out.ints HA.out) hn HX.out HB2.out.size (HD.out.below hW4)).mono ?_
  rintro e w5 ⟨rfl, hg5, hb5⟩
  have HB5 := hide (show Below w2.heap.size w2 w5 from hB4.trans (hb5.below hB4.size (Nat.le_refl _)))
  have HI5 := hide (HI2.out.of_block (HB5.out.block _ (by omega)))
  have HG5 := hide hg5
  have hGl := hg5.lt
  have s25 := HB5.out.size
  clear hg5 hb5 hB4 hW4 HB3 HK4 HR3 HR4
  go_wp2_with (first
    | (refine wpList_loadArr rfl (.tmp 2) rfl w.heap.size cs rfl HI5.out HA.out.1 ?_)
    | (refine wpList_zeros rfl 22 286 rfl zeros22 ?_; intro w6 r6 b6; have HR6 := hide r6; have HB6 := hide b6; clear r6 b6)
    | (refine wpList_storeArr rfl (.tmp 7) (.tmp 18) rfl rfl w5.heap.size cs ci _ rfl rfl HR6.out HA.out ?_; intro w7 r7 k7; have HR7 := hide r7; have HK7 := hide k7; clear r7 k7))
  have hB7 : Below w5.heap.size w5 w7 := HB6.out.trans (HK7.out.belowOf (Nat.le_refl _))
  have HB7 := hide (HB5.out.trans (hB7.mono s25))
  have HW7 := hide (HB2.out.trans (HB7.out.mono HB2.out.size))
  have hs2 := HB2.out.size
  refine want_loop a n cap w5.heap.size x ci w7 _ ?_ hn HX.out (HD.out.apart HW7.out (by omega)) ((HR7.out.ints HA.out).congr (fun j _ => (HZ.out j).symm))
  intros
  rename_i w8 h8
  obtain ⟨hv8, hk8⟩ := h8
  have hg8 := (HG5.out.of_block (hB7.block _ hGl)).of_block (hk8.block _ (by omega))
  have HB8 := hide (HB7.out.trans (hk8.belowOf s25))
  clear hB7
  go_wp2
  refine same_loop w2.heap.size w5.heap.size (counted x n ci) w8 _ ?_ hg8 hv8
  intros
  rename_i w9 h9
  have HB9 := hide (HB8.out.trans (h9.mono HB8.out.size))
  have HW9 := hide (HB2.out.trans (HB9.out.mono HB2.out.size))
  go_wp2_with fail
  refine (equal_src b' a n cp cap _ w9 (HS2.out.below HB9.out (Nat.le_refl _)) (HS.out.below HW9.out (Nat.le_refl _))).mono ?_
  rintro e w10 ⟨rfl, rfl⟩
  go_wp2
  go_ret
  exact ⟨rfl, HW9.out⟩

end Go.Proofs.Ybulkbfko
