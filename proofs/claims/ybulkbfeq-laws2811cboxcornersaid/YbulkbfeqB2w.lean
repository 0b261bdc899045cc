/- WRITTEN BY PROGRAM (genboxw.py). THE WALK OF LawS2811CBoxCorner AT DIMENSION 2, over the contracts of reset and begin and its own loops. -/
import Derived.Test.YbulkbfeqBoxUse
import Derived.Test.YbulkbfeqD2r
import Derived.Test.YbulkbfeqD2v
import Derived.Test.YbulkbfeqB2s
import Derived.Test.YbulkbfeqB2p
import Derived.Test.YbulkbfeqB2e
import Derived.Test.YbulkbfeqB2d
import Derived.Test.YbulkbfeqB2i
import Derived.Test.YbulkbfeqB2m
namespace Go.Proofs.Ybulkbfeq.B2
open Go.RowKit
attribute [local go_sem] run_store_float
set_option linter.unusedVariables false

theorem got_of {C W : Nat → Nat} (P : BoxPlain 2 C W) {S : Nat} {B1 : Nat → Nat} {Ba1 : Nat → Int} {w w' : World} {ok : Bool} (h : D2.beginBPost S (fillB 2 C 2) B1 W (fun _ => 0) (fun _ => 0) Ba1 w ok w') :
    (dupB C 2 = true ∧ ok = false) ∨
    (dupB C 2 = false ∧ ∃ jn, jn ≤ 2 ∧ ok = (jn == 2) ∧ (w'.rowIs (S + 1) 26 4 fun i => FV (invB 2 C i)) ∧ (w'.rowIs (S + 3) 26 2 fun i => FV (wtJ 2 jn (invB 2 C) W (fun _ => 0) i)) ∧
      (∀ a, a < 2 → ∀ b, b < 2 → fne (invB 2 C (a * 2 + b)) (if ax C b = a then sg C b else 0) = false) ∧
      (∀ j, j < 2 → (Ieee.double.mul (sg C j) (W (ax C j))).isSome = true) ∧
      (∀ j, j < jn → flt (fmul (sg C j) (W (ax C j))) 0 = false ∧ fne (wtJ 2 jn (invB 2 C) W (fun _ => 0) j) (fmul (sg C j) (W (ax C j))) = false) ∧
      (jn < 2 → flt (fmul (sg C jn) (W (ax C jn))) 0 = true)) := by
  obtain ⟨_, _, _, h⟩ := h
  cases hd : dupB C 2 with
  | true =>
    obtain ⟨c, hc, hs⟩ := P.dup ((dupB_iff C 2).1 hd)
    rcases h with ⟨_, h⟩ | ⟨h, _⟩
    · exact .inl ⟨rfl, h⟩
    · rw [h c hc] at hs; cases hs
  | false =>
    obtain ⟨p1, p2, p3⟩ := P.nodup (fun hdd => by rw [(dupB_iff C 2).2 hdd] at hd; cases hd)
    rcases h with ⟨⟨c, hc, hs⟩, _⟩ | ⟨_, hI, h⟩
    · rw [p1 c hc] at hs; cases hs
    · rcases h with ⟨j, hj, hlo, hs, hok, hX⟩ | ⟨hlo, hok, hX⟩
      · have hne : (j == 2) = false := by simp; omega
        exact .inr ⟨rfl, j, by omega, by rw [hok, hne], hI, hX, p2, mult_of p3 j (by omega) hlo (fun _ => hs)⟩
      · exact .inr ⟨rfl, 2, by omega, by rw [hok]; rfl, hI, hX, p2, mult_of p3 2 (by omega) hlo (fun h => by omega)⟩

set_option maxRecDepth 1000000 in
set_option maxHeartbeats 8000000 in
theorem box_walk (a0 a1 : Int) (mm L : Nat) (C Lo Hi Wf : Nat → Nat) (sa la ha wa : Option Addr) (len sc ll lc hl hc wl wc : Nat) (w : World)
    (ha0 : 0 ≤ a0) (hb0 : a0 ≤ 255) (ha1 : 0 ≤ a1) (hb1 : a1 ≤ 255) (hd : a0 % 4 = 1) (hm : a1 % 3 = (mm : Int)) (hL : (mm : Int) * 2 = (L : Int)) (hsel : SelOk w w.heap.size 2 sa len C) (pl : PickOk w w.heap.size 2 la ll Lo) (ph : PickOk w w.heap.size 2 ha hl Hi) (pw : PickOk w w.heap.size 2 wa wl Wf)
    (P : BoxPlain 2 C Wf) (hn : ∀ i, i < 2 → fne (Hi i) (Hi i) = false ∧ fne (fneg (Lo i)) (fneg (Lo i)) = false) :
    Calls Yba.prog 3 #[.int .u8 a0, .int .u8 a1, .slice sa len sc, .slice la ll lc, .slice ha hl hc, .slice wa wl wc] w fun e w' => e = .returned (.bool true) ∧ Below w.heap.size w w' := by
  generalize hH : w.heap.size = H at hsel pl ph pw ⊢
  have hm3 : mm ≤ 2 := by omega
  have hL8 : L ≤ 1000 := by omega
  have hmk : ∀ w : World, (Instr.makeSlice 24 (.int .i64 2) (.int .i64 2)).run Yba.prog w = .ok (.slice (some ⟨w.heap.size, 0, none⟩) 2 2) (w.alloc (Obj.cells (madeCells #[FV 0] 2) 26)) := fun w => run_make_row' 24 26 (FV 0) 8 Yba.underlying24 D2.info26 rfl .i64 .i64 2 (by omega) (by omega) w
  have hmi : ∀ w : World, (Instr.makeSlice 25 (.int .i64 2) (.int .i64 2)).run Yba.prog w = .ok (.slice (some ⟨w.heap.size, 0, none⟩) 2 2) (w.alloc (Obj.cells (madeCells #[Value.int IntKind.i64 0] 2) 3)) := fun w => run_make_row' 25 3 (.int .i64 0) 8 Yba.underlying25 D2.info3 rfl .i64 .i64 2 (by omega) (by omega) w
  have hmb : ∀ w : World, (Instr.makeSlice 32 (.int .i64 2) (.int .i64 2)).run Yba.prog w = .ok (.slice (some ⟨w.heap.size, 0, none⟩) 2 2) (w.alloc (Obj.cells (madeCells #[Value.bool false] 2) 4)) := fun w => run_make_row' 32 4 (.bool false) 1 Yba.underlying32 info4 rfl .i64 .i64 2 (by omega) (by omega) w
  have hmr : ∀ w : World, (Instr.makeSlice 24 (.int .i64 ((mm : Int) * 2)) (.int .i64 ((mm : Int) * 2))).run Yba.prog w = .ok (.slice (some ⟨w.heap.size, 0, none⟩) L L) (w.alloc (Obj.cells (madeCells #[FV 0] L) 26)) := fun w => by rw [hL]; exact run_make_row' 24 26 (FV 0) 8 Yba.underlying24 D2.info26 rfl .i64 .i64 L (by omega) (by omega) w
  have HC := hide hsel.lt
  have HS := hide (hsel.alloc hH (Obj.cells (madeCells #[FV 0] L) 26))
  have HP := hide (And.intro pl (And.intro ph pw))
  have HB := hide P
  have HN := hide hn
  have HL := hide hL
  clear hsel pl ph pw P hn hL
  go_enter Yba.func3, Yba.ntmps3
  go_wp2
  have r1 := ((World.rowIs_made (w.alloc (Obj.cells (madeCells #[FV 0] L) 26)) (.int .i64 0) 2 3).alloc (Obj.cells (madeCells #[Value.int IntKind.i64 0] 2) 3)).alloc (Obj.cells (madeCells #[FV 0] 2) 26)
  have r2 := (World.rowIs_made ((w.alloc (Obj.cells (madeCells #[FV 0] L) 26)).alloc (Obj.cells (madeCells #[Value.int IntKind.i64 0] 2) 3)) (.int .i64 0) 2 3).alloc (Obj.cells (madeCells #[FV 0] 2) 26)
  have r3 := World.rowIs_made (((w.alloc (Obj.cells (madeCells #[FV 0] L) 26)).alloc (Obj.cells (madeCells #[Value.int IntKind.i64 0] 2) 3)).alloc (Obj.cells (madeCells #[Value.int IntKind.i64 0] 2) 3)) (FV 0) 2 26
  simp only [World.size_alloc, hH] at r1 r2 r3
  have b1 : Below (H + 1) (w.alloc (Obj.cells (madeCells #[FV 0] L) 26)) ((((w.alloc (Obj.cells (madeCells #[FV 0] L) 26)).alloc (Obj.cells (madeCells #[Value.int IntKind.i64 0] 2) 3)).alloc (Obj.cells (madeCells #[Value.int IntKind.i64 0] 2) 3)).alloc (Obj.cells (madeCells #[FV 0] 2) 26)) := (((Below.refl _ _).alloc (by simp [hH] <;> omega) _).alloc (by simp [hH] <;> omega) _).alloc (by simp [hH] <;> omega) _
  refine sel_loop H mm len sc sa C (w.alloc (Obj.cells (madeCells #[FV 0] L) 26)) _ _ (by omega) HS.out b1 r1 r2 r3 ?_
  clear r1 r2 r3 b1
  intro u19 u20 u55 u56 u57 u58 u59 u60 u61 u62 u63 u64 u65 u66 u67 u68 u69 u70 u71 u72 u73 u74 u75 u76 u77 u78 u79 u80 u81 u82 u83 u84 u85 u86 u87 u88 u89 u90 u91 u92 u93 u94 w2 b2 r1 r2 r3
  have bw2 : Below H w w2 := ((Below.refl H w).alloc (by omega) _).trans (b2.mono (by omega))
  have hG := r3.lt
  have R2 := hide (And.intro bw2 (And.intro r1 (And.intro r2 r3)))
  clear bw2 r1 r2 r3 b2 HS hmi hmr
  generalize hG' : w2.heap.size = G at hG
  go_wp2
  obtain ⟨bw2, r1, r2, r3⟩ := R2.out
  have l1 := ((World.rowIs_made w2 (FV 0) 2 26).alloc (Obj.cells (madeCells #[FV 0] 2) 26)).alloc (Obj.cells (madeCells #[FV 0] 2) 26)
  have l2 := (World.rowIs_made (w2.alloc (Obj.cells (madeCells #[FV 0] 2) 26)) (FV 0) 2 26).alloc (Obj.cells (madeCells #[FV 0] 2) 26)
  have l3 := World.rowIs_made ((w2.alloc (Obj.cells (madeCells #[FV 0] 2) 26)).alloc (Obj.cells (madeCells #[FV 0] 2) 26)) (FV 0) 2 26
  simp only [World.size_alloc, hG'] at l1 l2 l3
  have b1 : Below G w2 (((w2.alloc (Obj.cells (madeCells #[FV 0] 2) 26)).alloc (Obj.cells (madeCells #[FV 0] 2) 26)).alloc (Obj.cells (madeCells #[FV 0] 2) 26)) := (((Below.refl _ _).alloc (by simp [hG'] <;> omega) _).alloc (by simp [hG'] <;> omega) _).alloc (by simp [hG'] <;> omega) _
  refine pick_loop G H ll lc hl hc wl wc la ha wa Lo Hi Wf w w2 _ _ (by omega) bw2 HP.out.1 HP.out.2.1 HP.out.2.2 b1 l1 l2 l3 ?_
  clear l1 l2 l3 b1
  intro u24 u101 u102 u103 u104 u105 u106 u107 u108 u109 u110 u111 u112 u113 u114 u115 u116 u117 u118 u119 u120 u121 u122 u123 w3 b3 l1 l2 l3
  have bw3 : Below H w w3 := bw2.trans (b3.mono (by omega))
  have hS := l3.lt
  have R3 := hide (And.intro bw3 (And.intro (r1.of_block (b3.block _ (by omega))) (And.intro (r2.of_block (b3.block _ (by omega))) (And.intro (r3.of_block (b3.block _ (by omega))) (And.intro l1 (And.intro l2 l3))))))
  clear bw2 bw3 r1 r2 r3 l1 l2 l3 b3 hG' HP hmk R2
  generalize hS' : w3.heap.size = S at hS
  go_wp2_with fail
  refine (D2.reset_any S (w3.alloc (Obj.cells #[Value.int IntKind.i64 0, Value.slice none 0 0, Value.slice none 0 0, Value.slice none 0 0, Value.slice none 0 0, Value.slice none 0 0, Value.slice none 0 0, Value.slice none 0 0] 29)) (.int .i64 0) (.slice none 0 0) (.slice none 0 0) (.slice none 0 0) (.slice none 0 0) (.slice none 0 0) (.slice none 0 0) (.slice none 0 0) (by simp [hS']) ?hs).mono ?_
  case hs =>
    have := heap_alloc_new w3 (Obj.cells #[Value.int IntKind.i64 0, Value.slice none 0 0, Value.slice none 0 0, Value.slice none 0 0, Value.slice none 0 0, Value.slice none 0 0, Value.slice none 0 0, Value.slice none 0 0] 29)
    rw [hS'] at this
    exact this
  rintro e w5 ⟨rfl, b5, z5, g0, g1, g2, g3, g7, q1, q2, q3, q7⟩
  obtain ⟨bw3, r1, r2, r3, l1, l2, l3⟩ := R3.out
  have bw5 : Below H w w5 := (bw3.alloc (by omega) (Obj.cells #[Value.int IntKind.i64 0, Value.slice none 0 0, Value.slice none 0 0, Value.slice none 0 0, Value.slice none 0 0, Value.slice none 0 0, Value.slice none 0 0, Value.slice none 0 0] 29)).trans (b5.mono (by omega))
  have r1 := (r1.alloc (Obj.cells #[Value.int IntKind.i64 0, Value.slice none 0 0, Value.slice none 0 0, Value.slice none 0 0, Value.slice none 0 0, Value.slice none 0 0, Value.slice none 0 0, Value.slice none 0 0] 29)).of_block (b5.block _ (by omega))
  have r2 := (r2.alloc (Obj.cells #[Value.int IntKind.i64 0, Value.slice none 0 0, Value.slice none 0 0, Value.slice none 0 0, Value.slice none 0 0, Value.slice none 0 0, Value.slice none 0 0, Value.slice none 0 0] 29)).of_block (b5.block _ (by omega))
  have r3 := (r3.alloc (Obj.cells #[Value.int IntKind.i64 0, Value.slice none 0 0, Value.slice none 0 0, Value.slice none 0 0, Value.slice none 0 0, Value.slice none 0 0, Value.slice none 0 0, Value.slice none 0 0] 29)).of_block (b5.block _ (by omega))
  have l1 := (l1.alloc (Obj.cells #[Value.int IntKind.i64 0, Value.slice none 0 0, Value.slice none 0 0, Value.slice none 0 0, Value.slice none 0 0, Value.slice none 0 0, Value.slice none 0 0, Value.slice none 0 0] 29)).of_block (b5.block _ (by omega))
  have l2 := (l2.alloc (Obj.cells #[Value.int IntKind.i64 0, Value.slice none 0 0, Value.slice none 0 0, Value.slice none 0 0, Value.slice none 0 0, Value.slice none 0 0, Value.slice none 0 0, Value.slice none 0 0] 29)).of_block (b5.block _ (by omega))
  have l3 := (l3.alloc (Obj.cells #[Value.int IntKind.i64 0, Value.slice none 0 0, Value.slice none 0 0, Value.slice none 0 0, Value.slice none 0 0, Value.slice none 0 0, Value.slice none 0 0, Value.slice none 0 0] 29)).of_block (b5.block _ (by omega))
  have H5 := hide (And.intro bw5 (And.intro r1 (And.intro r2 (And.intro r3 (And.intro l1 (And.intro l2 (And.intro l3 (And.intro g1 (And.intro g2 (And.intro g3 g7))))))))))
  have G5 := hide (And.intro z5 (And.intro g0 (And.intro q1 (And.intro q2 (And.intro q3 q7)))))
  clear bw3 bw5 r1 r2 r3 l1 l2 l3 g0 g1 g2 g3 g7 q1 q2 q3 q7 z5 b5 R3 hS'
  go_wp2_with fail
  obtain ⟨z5, g0, q1, q2, q3, q7⟩ := G5.out
  obtain ⟨bw5, r1, r2, r3, l1, l2, l3, g1, g2, g3, g7⟩ := H5.out
  refine (D2.beginB_any S H (H + 1) G (G + 1) (G + 1 + 1) L mm C Lo Hi Wf (fun _ => 0) (fun _ => 0) (fun _ => 0) (fun _ => 0) w5 (by omega) (by omega) (by omega) (by omega) hL8 (by have := HL.out; omega) HC.out (by omega) (by omega) (fun i hi => by rw [r1.cell hi, if_pos hi]) (fun i hi => by rw [l1.cell hi, if_pos hi]) (fun i hi => by rw [l2.cell hi, if_pos hi]) g0 g1 g2 g3 g7 (fun i hi => by rw [l3.cell hi, if_pos hi]) q1 q2 q3 q7 HB.out.hv HB.out.hv2).mono ?_
  clear bw5 r1 r2 r3 l1 l2 l3 z5 g0 g1 g2 g3 g7 q1 q2 q3 q7 G5
  rintro e w6 ⟨got, rfl, hpost⟩
  have hgot := got_of HB.out hpost
  obtain ⟨b6, rB, rBa, _⟩ := hpost
  obtain ⟨bw5, r1, r2, r3, l1, l2, l3, g1, g2, g3, g7⟩ := H5.out
  have r2' := r2.of_block (b6.block _ (show H + 1 + 1 < S + 1 by omega))
  have hZ := r2'.lt
  have F := hide (And.intro (bw5.trans (b6.mono (by omega))) (And.intro (r1.of_block (b6.block _ (by omega))) (And.intro r2' (And.intro (r3.of_block (b6.block _ (by omega))) (And.intro (l1.of_block (b6.block _ (by omega))) (And.intro (l2.of_block (b6.block _ (by omega))) (And.intro (l3.of_block (b6.block _ (by omega))) (And.intro ((b6.cell (p := ⟨S, 1, none⟩) (by simp)).trans g1) (And.intro ((b6.cell (p := ⟨S, 2, none⟩) (by simp)).trans g2) (And.intro ((b6.cell (p := ⟨S, 3, none⟩) (by simp)).trans g3) (And.intro ((b6.cell (p := ⟨S, 7, none⟩) (by simp)).trans g7) (And.intro rB rBa))))))))))))
  have HK := hide hgot
  clear bw5 r1 r2 r2' r3 l1 l2 l3 g1 g2 g3 g7 rB rBa b6 H5 hgot HB HL
  generalize hZ' : w6.heap.size = Z at hZ
  go_wp2
  obtain ⟨bw, r1, r2, r3, l1, l2, l3, g1, g2, g3, g7, rB, rBa⟩ := F.out
  refine see_loop S (H + 1) (H + 1 + 1) (H + 1 + 1 + 1) G (G + 1) mm C Lo Hi w6 w6 _ HC.out (fun i hi => by rw [r1.cell hi, if_pos hi]) (fun i hi => by rw [r2.cell hi, if_pos hi]) (fun i hi => by rw [r3.cell hi, if_pos hi]) (fun i hi => by rw [l1.cell hi, if_pos hi]) (fun i hi => by rw [l2.cell hi, if_pos hi]) g7 g2 (fun i hi => by rw [rBa.cell hi, if_pos hi]) (fun i hi => by rw [rB.cell hi, if_pos hi]) HN.out ?_
  rintro u12 u27 u28 u132 u133 u134 u135 u136 u137 u138 u139 u140 u141 u142 u143 u144 u145 u146 u147 u148 u149 u150 u151 u152 u153 u154 u155 u156 u157 u158 u159 u160 u161 u162 u163 u164 u165 u166 u167 u168 u169 u170 u171 u172 u173 w7 ⟨q, rfl⟩
  clear bw r1 r2 r3 l1 l2 l3 g1 g2 g3 g7 rB rBa
  have hZ7 : (w6.drewN q).heap.size = Z := hZ'
  go_wp2
  obtain ⟨bw, r1, r2, r3, l1, l2, l3, g1, g2, g3, g7, rB, rBa⟩ := F.out
  have a2 : ((w6.drewN q).alloc (Obj.cells (madeCells #[Value.bool false] 2) 4)).rowIs (H + 1 + 1) 3 2 fun i => Value.int IntKind.i64 (if i < 2 then ((C i / 2 : Nat) : Int) else 0) := World.rowIs.alloc (show (w6.drewN q).rowIs (H + 1 + 1) 3 2 _ from r2) (Obj.cells (madeCells #[Value.bool false] 2) 4)
  have rz := World.rowIs_made (w6.drewN q) (.bool false) 2 4
  rw [hZ7] at rz
  refine dup_loop (H + 1 + 1) Z C ((w6.drewN q).alloc (Obj.cells (madeCells #[Value.bool false] 2) 4)) _ _ (by omega) HC.out (fun i hi => by rw [a2.cell hi, if_pos hi]) (Kept.refl _ _) rz ?_
  intro u31 u176 u177 u178 u179 u180 u181 u182 u183 u184 u185 u186 u187 u188 u189 u190 u191 u192 u193 w8 k8
  have bl : Below Z w6 w8 := k8.below ((below_drewN (Below.refl Z w6) q).alloc (by omega) _) (Nat.le_refl _)
  have hSZ : S + 7 < Z := by rw [← hZ']; exact rBa.lt
  have E8 := hide (And.intro (bw.trans (bl.mono (by omega))) (And.intro (r2.of_block (bl.block _ (by omega))) (And.intro (r3.of_block (bl.block _ (by omega))) (And.intro (l3.of_block (bl.block _ (by omega))) (And.intro ((bl.cell (p := ⟨S, 1, none⟩) (by show S < Z; omega)).trans g1) ((bl.cell (p := ⟨S, 3, none⟩) (by show S < Z; omega)).trans g3))))))
  have hgot := HK.out
  have HI : Hid (∀ (n : Nat) (f : Nat → Value), (w6.rowIs (S + 1) 26 n f → w8.rowIs (S + 1) 26 n f) ∧ (w6.rowIs (S + 3) 26 n f → w8.rowIs (S + 3) 26 n f)) := fun n f => ⟨fun h => h.of_block (bl.block _ (by omega)), fun h => h.of_block (bl.block _ (by omega))⟩
  clear bw r1 r2 r3 l1 l2 l3 g1 g2 g3 g7 rB rBa a2 rz k8 bl HK F hmb hZ7 hZ' HN
  rcases hgot with ⟨hdup, rfl⟩ | ⟨hdup, jn, hjn, rfl, rI, rX, p2, p3, p4, p5⟩
  · rw [hdup]
    clear HC
    go_wp2
    go_ret
    exact ⟨rfl, E8.out.1⟩
  · rw [hdup]
    have PP := hide (And.intro rI (And.intro rX (And.intro p2 (And.intro p3 (And.intro p4 p5)))))
    clear rI rX p2 p3 p4 p5
    generalize hjb : (jn == 2) = jb
    go_wp2
    obtain ⟨rI, rX, p2, p3, p4, p5⟩ := PP.out
    obtain ⟨bw, r2, r3, l3, g1, g3⟩ := E8.out
    refine inv_out S (H + 1 + 1) (H + 1 + 1 + 1) C (invB 2 C) w8 w8 _ g1 (fun i hi => by rw [r2.cell hi, if_pos hi]) (fun i hi => by rw [r3.cell hi, if_pos hi]) (fun i hi => ((HI.out _ _).1 rI).cell hi) p2 ?_
    rintro u12 u32 u33 u34 u197 u198 u199 u200 u201 u202 u203 u204 u205 u206 u207 u208 u209 u210 u211 u212 u213 u214 u215 u216 u217 u218 u219 u220 u221 u222 u223 u224 u225 u226 u227 w9 rfl
    clear rI rX p2 p3 p4 p5 bw r2 r3 l3 g1 g3
    go_wp2
    obtain ⟨rI, rX, p2, p3, p4, p5⟩ := PP.out
    obtain ⟨bw, r2, r3, l3, g1, g3⟩ := E8.out
    refine mult_loop S (H + 1 + 1) (H + 1 + 1 + 1) (G + 1 + 1) jn C Wf (wtJ 2 jn (invB 2 C) Wf (fun _ => 0)) w9 w9 _ HC.out g3 (fun i hi => by rw [r2.cell hi, if_pos hi]) (fun i hi => by rw [r3.cell hi, if_pos hi]) (fun i hi => by rw [l3.cell hi, if_pos hi]) (fun i hi => ((HI.out _ _).2 rX).cell hi) hjn p3 p4 p5 ?_
    rintro u12 u36 u37 u228 u229 u230 u231 u232 u233 u234 u235 u236 u237 u238 u239 u240 u241 u242 u243 u244 u245 u246 u247 u248 u249 u250 u251 u252 u253 w10 ⟨q2, rfl⟩
    have HZ := hide bw
    clear rI rX p2 p3 p4 p5 bw r2 r3 l3 g1 g3 PP E8 HI HC
    rw [hjb]
    have hbb : (jb == jb) = true := by simp
    go_wp2
    go_ret
    exact ⟨rfl, below_drewN HZ.out q2⟩

end Go.Proofs.Ybulkbfeq.B2
