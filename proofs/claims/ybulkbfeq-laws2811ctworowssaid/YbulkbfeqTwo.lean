/- WRITTEN BY PROGRAM (gentwo.py). THE WALK OF LawS2811CTwoRows, over the contracts of reset and begin and its own loops. -/
import Derived.Test.YbulkbfeqLa
import Derived.Test.YbulkbfeqLb
import Derived.Test.YbulkbfeqLc
import Derived.Test.YbulkbfeqD2r
import Derived.Test.YbulkbfeqD2y
namespace Go.Proofs.Ybulkbfeq.Law2
open Go.RowKit
attribute [local go_sem] run_store_float
set_option linter.unusedVariables false

def qF (E : Nat → Int) (i : Nat) : Nat := if i < 4 then floatOfInt .f64 ((E i).tmod 9) else 0
def sw (b : Bool) (i : Nat) : Nat := if b then 1 - i else i
def detF (nm : Nat → Nat) : Nat := fsub (fmul (nm 0) (nm 3)) (fmul (nm 1) (nm 2))
def inv2 (A0 : Nat → Nat) : Nat → Nat := invJ 2 2 (colsF 2 A0 2) (fun _ => 0)

/-- WHAT THE WALK WANTS OF THE FLOATS: q, the four entries; T, which row of them stands where. -/
structure Plain (T q : Nat → Nat) : Prop where
  d1 : (Ieee.double.mul (nmF T q 2 0) (nmF T q 2 3)).isSome = true
  d2 : (Ieee.double.mul (nmF T q 2 1) (nmF T q 2 2)).isSome = true
  d3 : (Ieee.double.sub (fmul (nmF T q 2 0) (nmF T q 2 3)) (fmul (nmF T q 2 1) (nmF T q 2 2))).isSome = true
  hv : ∀ c, c < 2 → (∀ c', c' ≤ c → sing 2 c' (colsF 2 (fillT T q 2) c') = false) → okCol 2 c (colsF 2 (fillT T q 2) c)
  hv2 : (∀ c, c < 2 → sing 2 c (colsF 2 (fillT T q 2) c) = false) → ∀ j, j < 2 → (∀ i, i < j → flt (sumN 2 i (inv2 (fillT T q 2)) (fun _ => 0) 2) 0 = false) → okSum 2 j (inv2 (fillT T q 2)) (fun _ => 0)
  zero : fne (detF (nmF T q 2)) 0 = false → ∃ c, c < 2 ∧ sing 2 c (colsF 2 (fillT T q 2) c) = true
  some : fne (detF (nmF T q 2)) 0 = true → (∀ c, c < 2 → sing 2 c (colsF 2 (fillT T q 2) c) = false) ∧ (∀ j, j < 2 → flt (sumN 2 j (inv2 (fillT T q 2)) (fun _ => 0) 2) 0 = false) ∧
    (∀ r, r < 2 → ∀ c, c < 2 → okChk (nmF T q 2) (inv2 (fillT T q 2)) r c) ∧ ∀ i, i < 2 → fne (wtJ 2 2 (inv2 (fillT T q 2)) (fun _ => 0) (fun _ => 0) i) 0 = false

theorem row4 (w : World) (t : Nat) (a b c d : Value) (f : Nat → Value) (h0 : a = f 0) (h1 : b = f 1) (h2 : c = f 2) (h3 : d = f 3) : (w.alloc (Obj.cells #[a, b, c, d] t)).rowIs w.heap.size t 4 f :=
  World.rowIs_alloc w #[a, b, c, d] t f fun i hi => by
    match i, hi with
    | 0, _ => rw [← h0]; rfl
    | 1, _ => rw [← h1]; rfl
    | 2, _ => rw [← h2]; rfl
    | 3, _ => rw [← h3]; rfl
theorem row2 (w : World) (t : Nat) (a b : Value) (f : Nat → Value) (h0 : a = f 0) (h1 : b = f 1) : (w.alloc (Obj.cells #[a, b] t)).rowIs w.heap.size t 2 f :=
  World.rowIs_alloc w #[a, b] t f fun i hi => by
    match i, hi with
    | 0, _ => rw [← h0]; rfl
    | 1, _ => rw [← h1]; rfl
/-- From what begin leaves to the answer that the law looks at. -/
theorem ok_of {T q : Nat → Nat} (P : Plain T q) {S : Nat} {B1 : Nat → Nat} {Ba1 : Nat → Int} {w w' : World} {ok : Bool} (h : D2.begin2Post S (fillT T q 2) B1 (fun _ => 0) (fun _ => 0) (fun _ => 0) Ba1 w ok w') :
    (fne (detF (nmF T q 2)) 0 = false ∧ ok = false) ∨
    (fne (detF (nmF T q 2)) 0 = true ∧ ok = true ∧ (w'.rowIs (S + 1) 26 4 fun i => FV (inv2 (fillT T q 2) i)) ∧ (w'.rowIs (S + 3) 26 2 fun i => FV (wtJ 2 2 (inv2 (fillT T q 2)) (fun _ => 0) (fun _ => 0) i))) := by
  obtain ⟨_, _, _, h⟩ := h
  cases hd : fne (detF (nmF T q 2)) 0 with
  | false =>
    obtain ⟨c, hc, hs⟩ := P.zero hd
    rcases h with ⟨_, h⟩ | ⟨h, _⟩
    · exact .inl ⟨rfl, h⟩
    · rw [h c hc] at hs; cases hs
  | true =>
    obtain ⟨p1, p2, _, _⟩ := P.some hd
    rcases h with ⟨⟨c, hc, hs⟩, _⟩ | ⟨_, hI, h⟩
    · rw [p1 c hc] at hs; cases hs
    · rcases h with ⟨j, hj, _, hs, _⟩ | ⟨_, h, hX⟩
      · have := p2 j hj
        unfold inv2 at this
        rw [this] at hs; cases hs
      · exact .inr ⟨rfl, h, hI, hX⟩

set_option maxRecDepth 1000000 in
set_option maxHeartbeats 4000000 in
theorem two_false (E : Nat → Int) (hE8 : ∀ i, -128 ≤ E i ∧ E i ≤ 127) (w : World) (P : Plain (sw false) (qF E)) :
    Calls Yba.prog 4 #[.agg #[.int .i8 (E 0), .int .i8 (E 1), .int .i8 (E 2), .int .i8 (E 3)], .bool false] w fun e w' => e = .returned (.bool true) ∧ Below w.heap.size w w' := by
  generalize hH : w.heap.size = H
  have hmk : ∀ w : World, (Instr.makeSlice 24 (.int .i64 2) (.int .i64 2)).run Yba.prog w = .ok (.slice (some ⟨w.heap.size, 0, none⟩) 2 2) (w.alloc (.cells (madeCells #[FV 0] 2) 26)) := fun w => run_make_row' 24 26 (FV 0) 8 Yba.underlying24 D2.info26 rfl .i64 .i64 2 (by omega) (by omega) w
  have HP := hide P
  clear P
  go_enter Yba.func4, Yba.ntmps4
  go_wp2
  have rE := (row4 w 35 (.int .i8 (E 0)) (.int .i8 (E 1)) (.int .i8 (E 2)) (.int .i8 (E 3)) (fun i => .int .i8 (E i)) rfl rfl rfl rfl).alloc (Obj.cells #[FV 0, FV 0, FV 0, FV 0] 36)
  have rQ := row4 (w.alloc (Obj.cells #[Value.int IntKind.i8 (E 0), Value.int IntKind.i8 (E 1), Value.int IntKind.i8 (E 2), Value.int IntKind.i8 (E 3)] 35)) 36 (FV 0) (FV 0) (FV 0) (FV 0) (fun _ => FV 0) rfl rfl rfl rfl
  rw [World.size_alloc, hH] at rQ
  rw [hH] at rE
  refine q_loop H E _ _ _ (fun i hi => rE.cell hi) hE8 (Kept.refl _ _) rQ ?_
  clear rE rQ
  intro u6 u21 u22 u23 u24 u25 u26 u27 u28 u29 u30 u31 w2 hk2 hr2
  have hz2 : w2.heap.size = H + 2 := by rw [hk2.size]; simp [hH]
  have hb2 : Below H w w2 := hk2.below (((Below.refl H w).alloc (by omega) _).alloc (by simp; omega) _) (by omega)
  have c0 := hr2.cell (i := 0) (by omega)
  have c1 := hr2.cell (i := 1) (by omega)
  have c2 := hr2.cell (i := 2) (by omega)
  have c3 := hr2.cell (i := 3) (by omega)
  have HQ : Hid (w2.rowIs (H + 1) 36 4 fun i => FV (qF E i)) := hr2
  have HB := hide hb2
  have e0 : (if 0 < 4 then floatOfInt .f64 ((E 0).tmod 9) else 0) = qF E 0 := rfl
  have e1 : (if 1 < 4 then floatOfInt .f64 ((E 1).tmod 9) else 0) = qF E 1 := rfl
  have e2 : (if 2 < 4 then floatOfInt .f64 ((E 2).tmod 9) else 0) = qF E 2 := rfl
  have e3 : (if 3 < 4 then floatOfInt .f64 ((E 3).tmod 9) else 0) = qF E 3 := rfl
  rw [e0] at c0; rw [e1] at c1; rw [e2] at c2; rw [e3] at c3
  clear hr2 hb2 hk2 e0 e1 e2 e3
  go_wp2
  have r2 := ((row4 w2 26 (FV (qF E 0)) (FV (qF E 1)) (FV (qF E 2)) (FV (qF E 3)) (fun i => FV (qF E i)) rfl rfl rfl rfl).alloc (Obj.cells #[Value.int IntKind.i64 0, Value.int IntKind.i64 1] 3)).alloc (Obj.cells #[FV 0, FV 0, FV 0, FV 0] 36)
  have r3 := (row2 (w2.alloc (Obj.cells #[FV (qF E 0), FV (qF E 1), FV (qF E 2), FV (qF E 3)] 26)) 3 (.int .i64 0) (.int .i64 1) (fun i => .int .i64 (sw false i : Int)) rfl rfl).alloc (Obj.cells #[FV 0, FV 0, FV 0, FV 0] 36)
  have r4 := row4 ((w2.alloc (Obj.cells #[FV (qF E 0), FV (qF E 1), FV (qF E 2), FV (qF E 3)] 26)).alloc (Obj.cells #[Value.int IntKind.i64 0, Value.int IntKind.i64 1] 3)) 36 (FV 0) (FV 0) (FV 0) (FV 0) (fun _ => FV 0) rfl rfl rfl rfl
  have r1 := ((HQ.out.alloc (Obj.cells #[FV (qF E 0), FV (qF E 1), FV (qF E 2), FV (qF E 3)] 26)).alloc (Obj.cells #[Value.int IntKind.i64 0, Value.int IntKind.i64 1] 3)).alloc (Obj.cells #[FV 0, FV 0, FV 0, FV 0] 36)
  have b3 := ((HB.out.alloc (by omega) (Obj.cells #[FV (qF E 0), FV (qF E 1), FV (qF E 2), FV (qF E 3)] 26)).alloc (by simp; omega) (Obj.cells #[Value.int IntKind.i64 0, Value.int IntKind.i64 1] 3)).alloc (by simp; omega) (Obj.cells #[FV 0, FV 0, FV 0, FV 0] 36)
  simp only [World.size_alloc, hz2] at r2 r3 r4
  refine nm_loop (H + 1) (H + 2 + 1) (H + 2 + 1 + 1) (sw false) (qF E) _ _ _ (by omega) (by omega) (fun r hr => by simp [sw]; omega) (fun i hi => r3.cell hi) (fun i hi => r1.cell hi) (Kept.refl _ _) r4 ?_
  intro u10 u44 u45 u46 u47 u48 u49 u50 u51 u52 u53 u54 u55 u56 u57 u58 u59 u60 u61 u62 u63 u64 u65 u66 u67 u68 u69 w3 hk3 hr3
  have hz3 : w3.heap.size = H + 5 := by rw [hk3.size]; simp [hz2]
  have HB3 := hide (hk3.below b3 (by omega))
  have HR3 := hide (hk3.row r2 (by omega))
  have HS3 := hide (hk3.row r3 (by omega))
  have HN3 := hide hr3
  have n0 := hr3.cell (i := 0) (by omega)
  have n1 := hr3.cell (i := 1) (by omega)
  have n2 := hr3.cell (i := 2) (by omega)
  have n3 := hr3.cell (i := 3) (by omega)
  have f1 := run_fmul (P := Yba.prog) 26 _ _ HP.out.d1
  have f2 := run_fmul (P := Yba.prog) 26 _ _ HP.out.d2
  have f3 : ∀ w : World, _ = Result.ok (FV (detF (nmF (sw false) (qF E) 2))) w := run_fsub (P := Yba.prog) 26 _ _ HP.out.d3
  clear c0 c1 c2 c3 r1 r2 r3 r4 b3 hk3 hr3 HB HQ hz2
  go_wp2_with fail
  clear n0 n1 n2 n3 f1 f2 f3
  refine (D2.reset_any (H + 5 + 1 + 1 + 1) ((((w3.alloc (Obj.cells (madeCells #[FV 0] 2) 26)).alloc (Obj.cells (madeCells #[FV 0] 2) 26)).alloc (Obj.cells (madeCells #[FV 0] 2) 26)).alloc (Obj.cells #[Value.int IntKind.i64 0, Value.slice none 0 0, Value.slice none 0 0, Value.slice none 0 0, Value.slice none 0 0, Value.slice none 0 0, Value.slice none 0 0, Value.slice none 0 0] 29)) (.int .i64 0) (.slice none 0 0) (.slice none 0 0) (.slice none 0 0) (.slice none 0 0) (.slice none 0 0) (.slice none 0 0) (.slice none 0 0) (by simp [hz3]) ?hs).mono ?_
  case hs =>
    have := heap_alloc_new (((w3.alloc (Obj.cells (madeCells #[FV 0] 2) 26)).alloc (Obj.cells (madeCells #[FV 0] 2) 26)).alloc (Obj.cells (madeCells #[FV 0] 2) 26)) (Obj.cells #[Value.int IntKind.i64 0, Value.slice none 0 0, Value.slice none 0 0, Value.slice none 0 0, Value.slice none 0 0, Value.slice none 0 0, Value.slice none 0 0, Value.slice none 0 0] 29)
    simp only [World.size_alloc, hz3] at this
    exact this
  rintro e w5 ⟨rfl, b5, z5, g0, g1, g2, g3, g7, q1, q2, q3, q7⟩
  have l1 := World.rowIs_made w3 (FV 0) 2 26
  have l2 := World.rowIs_made (w3.alloc (Obj.cells (madeCells #[FV 0] 2) 26)) (FV 0) 2 26
  have l3 := World.rowIs_made ((w3.alloc (Obj.cells (madeCells #[FV 0] 2) 26)).alloc (Obj.cells (madeCells #[FV 0] 2) 26)) (FV 0) 2 26
  simp only [World.size_alloc, hz3] at l1 l2 l3
  have l1 := ((((l1.alloc (Obj.cells (madeCells #[FV 0] 2) 26)).alloc (Obj.cells (madeCells #[FV 0] 2) 26)).alloc (Obj.cells #[Value.int IntKind.i64 0, Value.slice none 0 0, Value.slice none 0 0, Value.slice none 0 0, Value.slice none 0 0, Value.slice none 0 0, Value.slice none 0 0, Value.slice none 0 0] 29))).of_block (b5.block _ (by omega))
  have l2 := (((l2.alloc (Obj.cells (madeCells #[FV 0] 2) 26)).alloc (Obj.cells #[Value.int IntKind.i64 0, Value.slice none 0 0, Value.slice none 0 0, Value.slice none 0 0, Value.slice none 0 0, Value.slice none 0 0, Value.slice none 0 0, Value.slice none 0 0] 29))).of_block (b5.block _ (by omega))
  have l3 := ((l3.alloc (Obj.cells #[Value.int IntKind.i64 0, Value.slice none 0 0, Value.slice none 0 0, Value.slice none 0 0, Value.slice none 0 0, Value.slice none 0 0, Value.slice none 0 0, Value.slice none 0 0] 29))).of_block (b5.block _ (by omega))
  have lR := ((((HR3.out.alloc (Obj.cells (madeCells #[FV 0] 2) 26)).alloc (Obj.cells (madeCells #[FV 0] 2) 26)).alloc (Obj.cells (madeCells #[FV 0] 2) 26)).alloc (Obj.cells #[Value.int IntKind.i64 0, Value.slice none 0 0, Value.slice none 0 0, Value.slice none 0 0, Value.slice none 0 0, Value.slice none 0 0, Value.slice none 0 0, Value.slice none 0 0] 29)).of_block (b5.block _ (by omega))
  have lS := ((((HS3.out.alloc (Obj.cells (madeCells #[FV 0] 2) 26)).alloc (Obj.cells (madeCells #[FV 0] 2) 26)).alloc (Obj.cells (madeCells #[FV 0] 2) 26)).alloc (Obj.cells #[Value.int IntKind.i64 0, Value.slice none 0 0, Value.slice none 0 0, Value.slice none 0 0, Value.slice none 0 0, Value.slice none 0 0, Value.slice none 0 0, Value.slice none 0 0] 29)).of_block (b5.block _ (by omega))
  have lN := ((((HN3.out.alloc (Obj.cells (madeCells #[FV 0] 2) 26)).alloc (Obj.cells (madeCells #[FV 0] 2) 26)).alloc (Obj.cells (madeCells #[FV 0] 2) 26)).alloc (Obj.cells #[Value.int IntKind.i64 0, Value.slice none 0 0, Value.slice none 0 0, Value.slice none 0 0, Value.slice none 0 0, Value.slice none 0 0, Value.slice none 0 0, Value.slice none 0 0] 29)).of_block (b5.block _ (by omega))
  have lb : Below H w w5 := ((((HB3.out.alloc (by omega) (Obj.cells (madeCells #[FV 0] 2) 26)).alloc (by simp; omega) (Obj.cells (madeCells #[FV 0] 2) 26)).alloc (by simp; omega) (Obj.cells (madeCells #[FV 0] 2) 26)).alloc (by simp; omega) (Obj.cells #[Value.int IntKind.i64 0, Value.slice none 0 0, Value.slice none 0 0, Value.slice none 0 0, Value.slice none 0 0, Value.slice none 0 0, Value.slice none 0 0, Value.slice none 0 0] 29)).trans (b5.mono (by omega))
  have H5 := hide (And.intro lb (And.intro lS (And.intro lN (And.intro g1 (And.intro g2 (And.intro g3 g7))))))
  have G5 := hide (And.intro z5 (And.intro g0 (And.intro g1 (And.intro g2 (And.intro g3 (And.intro g7 (And.intro q1 (And.intro q2 (And.intro q3 (And.intro q7 (And.intro l1 (And.intro l2 (And.intro l3 (And.intro lR lS))))))))))))))
  clear lb lS lN g0 g1 g2 g3 g7 q1 q2 q3 q7 l1 l2 l3 lR z5 b5 HR3 HS3 HN3 HB3 hz3 hmk
  go_wp2_with fail
  obtain ⟨z5, g0, g1, g2, g3, g7, q1, q2, q3, q7, l1, l2, l3, lR, lS⟩ := G5.out
  refine (D2.begin2_any (H + 5 + 1 + 1 + 1) (H + 2) (H + 2 + 1) (H + 5) (H + 5 + 1) (H + 5 + 1 + 1) (sw false) (qF E) (fun _ => 0) (fun _ => 0) (fun _ => 0) (fun _ => 0) (fun _ => 0) w5 (by omega) (by omega) (by omega) (by omega) (fun r hr => by simp [sw]; omega) (fun r hr => lS.cell hr) (fun i hi => lR.cell hi) g0 g1 g2 g3 g7 (fun i hi => l3.cell hi) q1 q2 q3 q7 HP.out.hv HP.out.hv2).mono ?_
  clear z5 g0 g1 g2 g3 g7 q1 q2 q3 q7 l1 l2 l3 lR lS G5
  rintro e w6 ⟨ok, rfl, hpost⟩
  have hok := ok_of HP.out hpost
  obtain ⟨b6, rB, rBa, _⟩ := hpost
  obtain ⟨lb, lS, lN, g1, g2, g3, g7⟩ := H5.out
  have F := hide (And.intro (lb.trans (b6.mono (by omega))) (And.intro (lS.of_block (b6.block _ (by omega))) (And.intro (lN.of_block (b6.block _ (by omega))) (And.intro ((b6.cell (p := ⟨(H + 5 + 1 + 1 + 1), 1, none⟩) (by simp)).trans g1) (And.intro ((b6.cell (p := ⟨(H + 5 + 1 + 1 + 1), 2, none⟩) (by simp)).trans g2) (And.intro ((b6.cell (p := ⟨(H + 5 + 1 + 1 + 1), 3, none⟩) (by simp)).trans g3) (And.intro ((b6.cell (p := ⟨(H + 5 + 1 + 1 + 1), 7, none⟩) (by simp)).trans g7) (And.intro rB rBa))))))))
  clear lb lS lN g1 g2 g3 g7 H5 b6 rB rBa
  have HK := hide hok
  clear hok
  go_wp2
  obtain ⟨fb, fS, fN, g1, g2, g3, g7, rB, rBa⟩ := F.out
  refine see_loop (H + 5 + 1 + 1 + 1) (H + 2 + 1) (sw false) w6 w6 _ (fun i hi => fS.cell hi) g7 g2 (fun i hi => by rw [rBa.cell hi, if_pos hi]) (fun i hi => by rw [rB.cell hi, if_pos hi]) ?_
  rintro u4 u17 u91 u92 u93 u94 u95 u96 u97 u98 u99 u100 u101 u102 u103 u104 u105 u106 u107 u108 u109 u110 u111 u112 w7 ⟨q, rfl⟩
  clear g2 g7 rB rBa fS
  rcases HK.out with ⟨hd, rfl⟩ | ⟨hd, rfl, rI, rX⟩
  · have hd' : (FloatKind.f64.format.order (detF (nmF (sw false) (qF E) 2)) 0 == some Ordering.eq) = true := by
      have h0 : (Ieee.double.order (detF (nmF (sw false) (qF E) 2)) 0 != some Ordering.eq) = false := hd
      show (Ieee.double.order (detF (nmF (sw false) (qF E) 2)) 0 == some Ordering.eq) = true
      simpa using h0
    have HF := hide fb
    generalize detF (nmF (sw false) (qF E) 2) = dt at hd' ⊢
    clear fb fN g1 g3 F HK hd
    go_wp2
    go_ret
    exact ⟨rfl, below_drewN HF.out q⟩
  · have hd' : (FloatKind.f64.format.order (detF (nmF (sw false) (qF E) 2)) 0 == some Ordering.eq) = false := by
      have h0 : (Ieee.double.order (detF (nmF (sw false) (qF E) 2)) 0 != some Ordering.eq) = true := hd
      show (Ieee.double.order (detF (nmF (sw false) (qF E) 2)) 0 == some Ordering.eq) = false
      simpa using h0
    obtain ⟨_, _, p3, p4⟩ := HP.out.some hd
    have HF := hide (And.intro fb (And.intro fN (And.intro g1 (And.intro g3 (And.intro rI (And.intro rX (And.intro p3 p4)))))))
    generalize detF (nmF (sw false) (qF E) 2) = dt at hd' ⊢
    clear fb fN g1 g3 F HK hd rI rX p3 p4
    go_wp2
    obtain ⟨fb, fN, g1, g3, rI, rX, p3, p4⟩ := HF.out
    refine rows_loop (H + 5 + 1 + 1 + 1) (H + 2 + 1 + 1) _ _ _ w6 (w6.drewN q) _ g1 g3 (fun i hi => fN.cell hi) (fun i hi => rI.cell hi) (fun i hi => rX.cell hi) p3 p4 ?_
    rintro u4 u18 u19 u20 u119 u120 u121 u122 u123 u124 u125 u126 u127 u128 u129 u130 u131 u132 u133 u134 u135 u136 u137 u138 u139 u140 u141 u142 u143 u144 u145 u146 u147 u148 u149 u150 u151 u152 u153 u154 u155 u156 u157 u158 u159 u160 u161 u162 u163 u164 w8 ⟨q2, rfl⟩
    have HG := hide fb
    clear fb fN g1 g3 rI rX p3 p4 HF
    go_wp2
    go_ret
    exact ⟨rfl, below_drewN (below_drewN HG.out q) q2⟩

set_option maxRecDepth 1000000 in
set_option maxHeartbeats 4000000 in
theorem two_true (E : Nat → Int) (hE8 : ∀ i, -128 ≤ E i ∧ E i ≤ 127) (w : World) (P : Plain (sw true) (qF E)) :
    Calls Yba.prog 4 #[.agg #[.int .i8 (E 0), .int .i8 (E 1), .int .i8 (E 2), .int .i8 (E 3)], .bool true] w fun e w' => e = .returned (.bool true) ∧ Below w.heap.size w w' := by
  generalize hH : w.heap.size = H
  have hmk : ∀ w : World, (Instr.makeSlice 24 (.int .i64 2) (.int .i64 2)).run Yba.prog w = .ok (.slice (some ⟨w.heap.size, 0, none⟩) 2 2) (w.alloc (.cells (madeCells #[FV 0] 2) 26)) := fun w => run_make_row' 24 26 (FV 0) 8 Yba.underlying24 D2.info26 rfl .i64 .i64 2 (by omega) (by omega) w
  have HP := hide P
  clear P
  go_enter Yba.func4, Yba.ntmps4
  go_wp2
  have rE := (row4 w 35 (.int .i8 (E 0)) (.int .i8 (E 1)) (.int .i8 (E 2)) (.int .i8 (E 3)) (fun i => .int .i8 (E i)) rfl rfl rfl rfl).alloc (Obj.cells #[FV 0, FV 0, FV 0, FV 0] 36)
  have rQ := row4 (w.alloc (Obj.cells #[Value.int IntKind.i8 (E 0), Value.int IntKind.i8 (E 1), Value.int IntKind.i8 (E 2), Value.int IntKind.i8 (E 3)] 35)) 36 (FV 0) (FV 0) (FV 0) (FV 0) (fun _ => FV 0) rfl rfl rfl rfl
  rw [World.size_alloc, hH] at rQ
  rw [hH] at rE
  refine q_loop H E _ _ _ (fun i hi => rE.cell hi) hE8 (Kept.refl _ _) rQ ?_
  clear rE rQ
  intro u6 u21 u22 u23 u24 u25 u26 u27 u28 u29 u30 u31 w2 hk2 hr2
  have hz2 : w2.heap.size = H + 2 := by rw [hk2.size]; simp [hH]
  have hb2 : Below H w w2 := hk2.below (((Below.refl H w).alloc (by omega) _).alloc (by simp; omega) _) (by omega)
  have c0 := hr2.cell (i := 0) (by omega)
  have c1 := hr2.cell (i := 1) (by omega)
  have c2 := hr2.cell (i := 2) (by omega)
  have c3 := hr2.cell (i := 3) (by omega)
  have HQ : Hid (w2.rowIs (H + 1) 36 4 fun i => FV (qF E i)) := hr2
  have HB := hide hb2
  have e0 : (if 0 < 4 then floatOfInt .f64 ((E 0).tmod 9) else 0) = qF E 0 := rfl
  have e1 : (if 1 < 4 then floatOfInt .f64 ((E 1).tmod 9) else 0) = qF E 1 := rfl
  have e2 : (if 2 < 4 then floatOfInt .f64 ((E 2).tmod 9) else 0) = qF E 2 := rfl
  have e3 : (if 3 < 4 then floatOfInt .f64 ((E 3).tmod 9) else 0) = qF E 3 := rfl
  rw [e0] at c0; rw [e1] at c1; rw [e2] at c2; rw [e3] at c3
  clear hr2 hb2 hk2 e0 e1 e2 e3
  go_wp2
  have r2 := (((row4 w2 26 (FV (qF E 0)) (FV (qF E 1)) (FV (qF E 2)) (FV (qF E 3)) (fun i => FV (qF E i)) rfl rfl rfl rfl).alloc (Obj.cells #[Value.int IntKind.i64 0, Value.int IntKind.i64 1] 3)).alloc (Obj.cells #[Value.int IntKind.i64 1, Value.int IntKind.i64 0] 3)).alloc (Obj.cells #[FV 0, FV 0, FV 0, FV 0] 36)
  have r3 := (row2 ((w2.alloc (Obj.cells #[FV (qF E 0), FV (qF E 1), FV (qF E 2), FV (qF E 3)] 26)).alloc (Obj.cells #[Value.int IntKind.i64 0, Value.int IntKind.i64 1] 3)) 3 (.int .i64 1) (.int .i64 0) (fun i => .int .i64 (sw true i : Int)) rfl rfl).alloc (Obj.cells #[FV 0, FV 0, FV 0, FV 0] 36)
  have r4 := row4 (((w2.alloc (Obj.cells #[FV (qF E 0), FV (qF E 1), FV (qF E 2), FV (qF E 3)] 26)).alloc (Obj.cells #[Value.int IntKind.i64 0, Value.int IntKind.i64 1] 3)).alloc (Obj.cells #[Value.int IntKind.i64 1, Value.int IntKind.i64 0] 3)) 36 (FV 0) (FV 0) (FV 0) (FV 0) (fun _ => FV 0) rfl rfl rfl rfl
  have r1 := (((HQ.out.alloc (Obj.cells #[FV (qF E 0), FV (qF E 1), FV (qF E 2), FV (qF E 3)] 26)).alloc (Obj.cells #[Value.int IntKind.i64 0, Value.int IntKind.i64 1] 3)).alloc (Obj.cells #[Value.int IntKind.i64 1, Value.int IntKind.i64 0] 3)).alloc (Obj.cells #[FV 0, FV 0, FV 0, FV 0] 36)
  have b3 := (((HB.out.alloc (by omega) (Obj.cells #[FV (qF E 0), FV (qF E 1), FV (qF E 2), FV (qF E 3)] 26)).alloc (by simp; omega) (Obj.cells #[Value.int IntKind.i64 0, Value.int IntKind.i64 1] 3)).alloc (by simp; omega) (Obj.cells #[Value.int IntKind.i64 1, Value.int IntKind.i64 0] 3)).alloc (by simp; omega) (Obj.cells #[FV 0, FV 0, FV 0, FV 0] 36)
  simp only [World.size_alloc, hz2] at r2 r3 r4
  refine nm_loop (H + 1) (H + 2 + 1 + 1) (H + 2 + 1 + 1 + 1) (sw true) (qF E) _ _ _ (by omega) (by omega) (fun r hr => by simp [sw]; omega) (fun i hi => r3.cell hi) (fun i hi => r1.cell hi) (Kept.refl _ _) r4 ?_
  intro u10 u44 u45 u46 u47 u48 u49 u50 u51 u52 u53 u54 u55 u56 u57 u58 u59 u60 u61 u62 u63 u64 u65 u66 u67 u68 u69 w3 hk3 hr3
  have hz3 : w3.heap.size = H + 6 := by rw [hk3.size]; simp [hz2]
  have HB3 := hide (hk3.below b3 (by omega))
  have HR3 := hide (hk3.row r2 (by omega))
  have HS3 := hide (hk3.row r3 (by omega))
  have HN3 := hide hr3
  have n0 := hr3.cell (i := 0) (by omega)
  have n1 := hr3.cell (i := 1) (by omega)
  have n2 := hr3.cell (i := 2) (by omega)
  have n3 := hr3.cell (i := 3) (by omega)
  have f1 := run_fmul (P := Yba.prog) 26 _ _ HP.out.d1
  have f2 := run_fmul (P := Yba.prog) 26 _ _ HP.out.d2
  have f3 : ∀ w : World, _ = Result.ok (FV (detF (nmF (sw true) (qF E) 2))) w := run_fsub (P := Yba.prog) 26 _ _ HP.out.d3
  clear c0 c1 c2 c3 r1 r2 r3 r4 b3 hk3 hr3 HB HQ hz2
  go_wp2_with fail
  clear n0 n1 n2 n3 f1 f2 f3
  refine (D2.reset_any (H + 6 + 1 + 1 + 1) ((((w3.alloc (Obj.cells (madeCells #[FV 0] 2) 26)).alloc (Obj.cells (madeCells #[FV 0] 2) 26)).alloc (Obj.cells (madeCells #[FV 0] 2) 26)).alloc (Obj.cells #[Value.int IntKind.i64 0, Value.slice none 0 0, Value.slice none 0 0, Value.slice none 0 0, Value.slice none 0 0, Value.slice none 0 0, Value.slice none 0 0, Value.slice none 0 0] 29)) (.int .i64 0) (.slice none 0 0) (.slice none 0 0) (.slice none 0 0) (.slice none 0 0) (.slice none 0 0) (.slice none 0 0) (.slice none 0 0) (by simp [hz3]) ?hs).mono ?_
  case hs =>
    have := heap_alloc_new (((w3.alloc (Obj.cells (madeCells #[FV 0] 2) 26)).alloc (Obj.cells (madeCells #[FV 0] 2) 26)).alloc (Obj.cells (madeCells #[FV 0] 2) 26)) (Obj.cells #[Value.int IntKind.i64 0, Value.slice none 0 0, Value.slice none 0 0, Value.slice none 0 0, Value.slice none 0 0, Value.slice none 0 0, Value.slice none 0 0, Value.slice none 0 0] 29)
    simp only [World.size_alloc, hz3] at this
    exact this
  rintro e w5 ⟨rfl, b5, z5, g0, g1, g2, g3, g7, q1, q2, q3, q7⟩
  have l1 := World.rowIs_made w3 (FV 0) 2 26
  have l2 := World.rowIs_made (w3.alloc (Obj.cells (madeCells #[FV 0] 2) 26)) (FV 0) 2 26
  have l3 := World.rowIs_made ((w3.alloc (Obj.cells (madeCells #[FV 0] 2) 26)).alloc (Obj.cells (madeCells #[FV 0] 2) 26)) (FV 0) 2 26
  simp only [World.size_alloc, hz3] at l1 l2 l3
  have l1 := ((((l1.alloc (Obj.cells (madeCells #[FV 0] 2) 26)).alloc (Obj.cells (madeCells #[FV 0] 2) 26)).alloc (Obj.cells #[Value.int IntKind.i64 0, Value.slice none 0 0, Value.slice none 0 0, Value.slice none 0 0, Value.slice none 0 0, Value.slice none 0 0, Value.slice none 0 0, Value.slice none 0 0] 29))).of_block (b5.block _ (by omega))
  have l2 := (((l2.alloc (Obj.cells (madeCells #[FV 0] 2) 26)).alloc (Obj.cells #[Value.int IntKind.i64 0, Value.slice none 0 0, Value.slice none 0 0, Value.slice none 0 0, Value.slice none 0 0, Value.slice none 0 0, Value.slice none 0 0, Value.slice none 0 0] 29))).of_block (b5.block _ (by omega))
  have l3 := ((l3.alloc (Obj.cells #[Value.int IntKind.i64 0, Value.slice none 0 0, Value.slice none 0 0, Value.slice none 0 0, Value.slice none 0 0, Value.slice none 0 0, Value.slice none 0 0, Value.slice none 0 0] 29))).of_block (b5.block _ (by omega))
  have lR := ((((HR3.out.alloc (Obj.cells (madeCells #[FV 0] 2) 26)).alloc (Obj.cells (madeCells #[FV 0] 2) 26)).alloc (Obj.cells (madeCells #[FV 0] 2) 26)).alloc (Obj.cells #[Value.int IntKind.i64 0, Value.slice none 0 0, Value.slice none 0 0, Value.slice none 0 0, Value.slice none 0 0, Value.slice none 0 0, Value.slice none 0 0, Value.slice none 0 0] 29)).of_block (b5.block _ (by omega))
  have lS := ((((HS3.out.alloc (Obj.cells (madeCells #[FV 0] 2) 26)).alloc (Obj.cells (madeCells #[FV 0] 2) 26)).alloc (Obj.cells (madeCells #[FV 0] 2) 26)).alloc (Obj.cells #[Value.int IntKind.i64 0, Value.slice none 0 0, Value.slice none 0 0, Value.slice none 0 0, Value.slice none 0 0, Value.slice none 0 0, Value.slice none 0 0, Value.slice none 0 0] 29)).of_block (b5.block _ (by omega))
  have lN := ((((HN3.out.alloc (Obj.cells (madeCells #[FV 0] 2) 26)).alloc (Obj.cells (madeCells #[FV 0] 2) 26)).alloc (Obj.cells (madeCells #[FV 0] 2) 26)).alloc (Obj.cells #[Value.int IntKind.i64 0, Value.slice none 0 0, Value.slice none 0 0, Value.slice none 0 0, Value.slice none 0 0, Value.slice none 0 0, Value.slice none 0 0, Value.slice none 0 0] 29)).of_block (b5.block _ (by omega))
  have lb : Below H w w5 := ((((HB3.out.alloc (by omega) (Obj.cells (madeCells #[FV 0] 2) 26)).alloc (by simp; omega) (Obj.cells (madeCells #[FV 0] 2) 26)).alloc (by simp; omega) (Obj.cells (madeCells #[FV 0] 2) 26)).alloc (by simp; omega) (Obj.cells #[Value.int IntKind.i64 0, Value.slice none 0 0, Value.slice none 0 0, Value.slice none 0 0, Value.slice none 0 0, Value.slice none 0 0, Value.slice none 0 0, Value.slice none 0 0] 29)).trans (b5.mono (by omega))
  have H5 := hide (And.intro lb (And.intro lS (And.intro lN (And.intro g1 (And.intro g2 (And.intro g3 g7))))))
  have G5 := hide (And.intro z5 (And.intro g0 (And.intro g1 (And.intro g2 (And.intro g3 (And.intro g7 (And.intro q1 (And.intro q2 (And.intro q3 (And.intro q7 (And.intro l1 (And.intro l2 (And.intro l3 (And.intro lR lS))))))))))))))
  clear lb lS lN g0 g1 g2 g3 g7 q1 q2 q3 q7 l1 l2 l3 lR z5 b5 HR3 HS3 HN3 HB3 hz3 hmk
  go_wp2_with fail
  obtain ⟨z5, g0, g1, g2, g3, g7, q1, q2, q3, q7, l1, l2, l3, lR, lS⟩ := G5.out
  refine (D2.begin2_any (H + 6 + 1 + 1 + 1) (H + 2) (H + 2 + 1 + 1) (H + 6) (H + 6 + 1) (H + 6 + 1 + 1) (sw true) (qF E) (fun _ => 0) (fun _ => 0) (fun _ => 0) (fun _ => 0) (fun _ => 0) w5 (by omega) (by omega) (by omega) (by omega) (fun r hr => by simp [sw]; omega) (fun r hr => lS.cell hr) (fun i hi => lR.cell hi) g0 g1 g2 g3 g7 (fun i hi => l3.cell hi) q1 q2 q3 q7 HP.out.hv HP.out.hv2).mono ?_
  clear z5 g0 g1 g2 g3 g7 q1 q2 q3 q7 l1 l2 l3 lR lS G5
  rintro e w6 ⟨ok, rfl, hpost⟩
  have hok := ok_of HP.out hpost
  obtain ⟨b6, rB, rBa, _⟩ := hpost
  obtain ⟨lb, lS, lN, g1, g2, g3, g7⟩ := H5.out
  have F := hide (And.intro (lb.trans (b6.mono (by omega))) (And.intro (lS.of_block (b6.block _ (by omega))) (And.intro (lN.of_block (b6.block _ (by omega))) (And.intro ((b6.cell (p := ⟨(H + 6 + 1 + 1 + 1), 1, none⟩) (by simp)).trans g1) (And.intro ((b6.cell (p := ⟨(H + 6 + 1 + 1 + 1), 2, none⟩) (by simp)).trans g2) (And.intro ((b6.cell (p := ⟨(H + 6 + 1 + 1 + 1), 3, none⟩) (by simp)).trans g3) (And.intro ((b6.cell (p := ⟨(H + 6 + 1 + 1 + 1), 7, none⟩) (by simp)).trans g7) (And.intro rB rBa))))))))
  clear lb lS lN g1 g2 g3 g7 H5 b6 rB rBa
  have HK := hide hok
  clear hok
  go_wp2
  obtain ⟨fb, fS, fN, g1, g2, g3, g7, rB, rBa⟩ := F.out
  refine see_loop (H + 6 + 1 + 1 + 1) (H + 2 + 1 + 1) (sw true) w6 w6 _ (fun i hi => fS.cell hi) g7 g2 (fun i hi => by rw [rBa.cell hi, if_pos hi]) (fun i hi => by rw [rB.cell hi, if_pos hi]) ?_
  rintro u4 u17 u91 u92 u93 u94 u95 u96 u97 u98 u99 u100 u101 u102 u103 u104 u105 u106 u107 u108 u109 u110 u111 u112 w7 ⟨q, rfl⟩
  clear g2 g7 rB rBa fS
  rcases HK.out with ⟨hd, rfl⟩ | ⟨hd, rfl, rI, rX⟩
  · have hd' : (FloatKind.f64.format.order (detF (nmF (sw true) (qF E) 2)) 0 == some Ordering.eq) = true := by
      have h0 : (Ieee.double.order (detF (nmF (sw true) (qF E) 2)) 0 != some Ordering.eq) = false := hd
      show (Ieee.double.order (detF (nmF (sw true) (qF E) 2)) 0 == some Ordering.eq) = true
      simpa using h0
    have HF := hide fb
    generalize detF (nmF (sw true) (qF E) 2) = dt at hd' ⊢
    clear fb fN g1 g3 F HK hd
    go_wp2
    go_ret
    exact ⟨rfl, below_drewN HF.out q⟩
  · have hd' : (FloatKind.f64.format.order (detF (nmF (sw true) (qF E) 2)) 0 == some Ordering.eq) = false := by
      have h0 : (Ieee.double.order (detF (nmF (sw true) (qF E) 2)) 0 != some Ordering.eq) = true := hd
      show (Ieee.double.order (detF (nmF (sw true) (qF E) 2)) 0 == some Ordering.eq) = false
      simpa using h0
    obtain ⟨_, _, p3, p4⟩ := HP.out.some hd
    have HF := hide (And.intro fb (And.intro fN (And.intro g1 (And.intro g3 (And.intro rI (And.intro rX (And.intro p3 p4)))))))
    generalize detF (nmF (sw true) (qF E) 2) = dt at hd' ⊢
    clear fb fN g1 g3 F HK hd rI rX p3 p4
    go_wp2
    obtain ⟨fb, fN, g1, g3, rI, rX, p3, p4⟩ := HF.out
    refine rows_loop (H + 6 + 1 + 1 + 1) (H + 2 + 1 + 1 + 1) _ _ _ w6 (w6.drewN q) _ g1 g3 (fun i hi => fN.cell hi) (fun i hi => rI.cell hi) (fun i hi => rX.cell hi) p3 p4 ?_
    rintro u4 u18 u19 u20 u119 u120 u121 u122 u123 u124 u125 u126 u127 u128 u129 u130 u131 u132 u133 u134 u135 u136 u137 u138 u139 u140 u141 u142 u143 u144 u145 u146 u147 u148 u149 u150 u151 u152 u153 u154 u155 u156 u157 u158 u159 u160 u161 u162 u163 u164 w8 ⟨q2, rfl⟩
    have HG := hide fb
    clear fb fN g1 g3 rI rX p3 p4 HF
    go_wp2
    go_ret
    exact ⟨rfl, below_drewN (below_drewN HG.out q) q2⟩

end Go.Proofs.Ybulkbfeq.Law2
