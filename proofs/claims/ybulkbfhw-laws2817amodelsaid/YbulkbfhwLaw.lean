/- WRITTEN BY PROGRAM (gen17w.py). THE WALK OF LawS2817AModel, over the contract of runs and its own loops. -/
import Derived.Test.YbulkbfhwRuns
import Derived.Test.YbulkbfhwL0
import Derived.Test.YbulkbfhwL1
import Derived.Test.YbulkbfhwL2
import Derived.Test.YbulkbfhwL3
import Derived.Test.YbulkbfhwL4
import Derived.Test.YbulkbfhwL5
import Derived.Test.YbulkbfhwL6
namespace Go.Proofs.Ybulkbfhw
open Go.RowKit
attribute [local go_sem] run_store_func
attribute [local go_sem ↓] Go.wp_at_zero Go.wp_at_succ
set_option linter.unusedVariables false

theorem info21 : (Yba.prog.info? 21).map (fun i => (i.zero, i.size, i.bytes)) = some (some (.int .i32 0), 1, 4) := by kernel_rfl
theorem info4 : (Yba.prog.info? 4).map (fun i => (i.zero, i.size, i.bytes)) = some (some (.bool false), 1, 1) := by kernel_rfl

set_option maxRecDepth 1000000 in
set_option maxHeartbeats 8000000 in
theorem law_zero (a0 : Int) (e : Nat) (ca ra : Option Addr) (cl cc n rc : Nat) (c : Nat → Nat) (lab : Nat → Int) (w : World) (h0 : 0 ≤ a0) (h1 : a0 ≤ 255) (he : a0 % 16 = (e : Int)) (hcl : cl = 0) (hn : n ≤ 1024) (hc : CntOk w w.heap.size ca cl 1 c) (hr : RawOk w w.heap.size ra n (e + (stF c 1).toNat) lab) (hlab : ∀ i, i < n → 0 ≤ lab i ∧ lab i ≤ 100000) :
    Calls Yba.prog 3 #[.int .u8 a0, .slice ca cl cc, .slice ra n rc] w fun en w' => en = .returned (.bool true) ∧ Below w.heap.size w w' := by
  generalize hH : w.heap.size = H at hc hr ⊢
  have he16 : e ≤ 15 := by omega
  have hm1 : ∀ w : World, (Instr.makeSlice 25 (.int .i32 ((e : Int) + 1)) (.int .i32 ((e : Int) + 1))).run Yba.prog w = .ok (.slice (some ⟨w.heap.size, 0, none⟩) (e + 1) (e + 1)) (w.alloc (Obj.cells (madeCells #[Value.int IntKind.i32 0] (e + 1)) 21)) := fun w => by
    have := run_make_row' (P := Yba.prog) 25 21 (.int .i32 0) 4 Yba.underlying25 info21 rfl .i32 .i32 (e + 1) (by omega) (by omega) w
    rwa [Int.natCast_add] at this
  have hm2 : ∀ w : World, (Instr.makeSlice 25 (.int .i64 1) (.int .i64 1)).run Yba.prog w = .ok (.slice (some ⟨w.heap.size, 0, none⟩) 1 1) (w.alloc (Obj.cells (madeCells #[Value.int IntKind.i32 0] 1) 21)) := fun w => run_make_row' (P := Yba.prog) 25 21 (.int .i32 0) 4 Yba.underlying25 info21 rfl .i64 .i64 1 (by omega) (by omega) w
  have hm3 : ∀ w : World, (Instr.makeSlice 25 (.int .i64 (n : Int)) (.int .i64 (n : Int))).run Yba.prog w = .ok (.slice (some ⟨w.heap.size, 0, none⟩) n n) (w.alloc (Obj.cells (madeCells #[Value.int IntKind.i32 0] n) 21)) := fun w => run_make_row' (P := Yba.prog) 25 21 (.int .i32 0) 4 Yba.underlying25 info21 rfl .i64 .i64 n (by omega) (by omega) w
  have hm4 : ∀ w : World, (Instr.makeSlice 46 (.int .i64 (n : Int)) (.int .i64 (n : Int))).run Yba.prog w = .ok (.slice (some ⟨w.heap.size, 0, none⟩) n n) (w.alloc (Obj.cells (madeCells #[Value.bool false] n) 4)) := fun w => run_make_row' (P := Yba.prog) 46 4 (.bool false) 1 Yba.underlying46 info4 rfl .i64 .i64 n (by omega) (by omega) w
  have HC := hide hc
  have HR := hide hr
  clear hc hr
  go_enter Yba.func3, Yba.ntmps3
  go_wp2
  have rS := World.rowIs_made ((w.alloc (Obj.cells #[Value.slice (some { block := H + 1, off := 0 }) (e + 1) (e + 1), Value.slice none 0 0, Value.slice none 0 0, Value.slice none 0 0, Value.slice none 0 0, Value.slice none 0 0, Value.slice none 0 0, Value.slice none 0 0, Value.slice none 0 0, Value.slice none 0 0, Value.pointer none] 36)).alloc (Obj.cells (madeCells #[Value.int IntKind.i32 0] (e + 1)) 21)) (.int .i32 0) 1 21
  have rD := ((World.rowIs_alloc w #[.slice (some ⟨H + 1, 0, none⟩) (e + 1) (e + 1), .slice none 0 0, .slice none 0 0, .slice none 0 0, .slice none 0 0, .slice none 0 0, .slice none 0 0, .slice none 0 0, .slice none 0 0, .slice none 0 0, .pointer none] 36 (fun i => if i = 0 then .slice (some ⟨H + 1, 0, none⟩) (e + 1) (e + 1) else if i < 10 then .slice none 0 0 else .pointer none) (fun i hi => by
    match i, hi with
    | 0, _ => rfl
    | 1, _ => rfl
    | 2, _ => rfl
    | 3, _ => rfl
    | 4, _ => rfl
    | 5, _ => rfl
    | 6, _ => rfl
    | 7, _ => rfl
    | 8, _ => rfl
    | 9, _ => rfl
    | 10, _ => rfl)).alloc (Obj.cells (madeCells #[Value.int IntKind.i32 0] (e + 1)) 21)).alloc (Obj.cells (madeCells #[Value.int IntKind.i32 0] 1) 21)
  simp only [World.size_alloc, hH] at rS rD
  have b3 : Below H w (((w.alloc (Obj.cells #[Value.slice (some { block := H + 1, off := 0 }) (e + 1) (e + 1), Value.slice none 0 0, Value.slice none 0 0, Value.slice none 0 0, Value.slice none 0 0, Value.slice none 0 0, Value.slice none 0 0, Value.slice none 0 0, Value.slice none 0 0, Value.slice none 0 0, Value.pointer none] 36)).alloc (Obj.cells (madeCells #[Value.int IntKind.i32 0] (e + 1)) 21)).alloc (Obj.cells (madeCells #[Value.int IntKind.i32 0] 1) 21)) := (((Below.refl _ _).alloc (by omega) _).alloc (by simp [hH]) _).alloc (by simp [hH] <;> omega) _
  refine starts_loop (H + 1 + 1) 1 cl cc H ca c (((w.alloc (Obj.cells #[Value.slice (some { block := H + 1, off := 0 }) (e + 1) (e + 1), Value.slice none 0 0, Value.slice none 0 0, Value.slice none 0 0, Value.slice none 0 0, Value.slice none 0 0, Value.slice none 0 0, Value.slice none 0 0, Value.slice none 0 0, Value.slice none 0 0, Value.pointer none] 36)).alloc (Obj.cells (madeCells #[Value.int IntKind.i32 0] (e + 1)) 21)).alloc (Obj.cells (madeCells #[Value.int IntKind.i32 0] 1) 21)) _ _ (by omega) (HC.out.below b3) (by omega) (Kept.refl _ _) rS ?_
  intro u12 u13 u63 u64 u65 u66 u67 u68 u69 u70 u71 u72 u73 u74 u75 u76 u77 u78 u79 u80 u81 u82 u83 u84 u85 w2 k2 rS2
  have hz2 : w2.heap.size = H + 3 := by rw [k2.size]; simp [hH]
  have bw2 : Below H w w2 := k2.below b3 (by omega)
  have rD2 := k2.row rD (by omega)
  have P2 := hide (And.intro bw2 (And.intro rD2 rS2))
  have hge := stF_nonneg c 1
  have hle := stF_le c HC.out.1 1
  obtain ⟨tot, ht⟩ : ∃ tot : Nat, stF c 1 = (tot : Int) := ⟨_, (Int.toNat_of_nonneg hge).symm⟩
  have hpos : (0 : Int) < stF c 1 := stF_mono c 0 1 (by omega)
  have HT := hide ht
  rw [ht] at hge hle hpos ⊢
  obtain ⟨m, hm⟩ : ∃ m : Nat, (e : Int) + (tot : Int) = (m : Int) := ⟨e + tot, by omega⟩
  have HM := hide hm
  have hm8 : m ≤ 5000 := by omega
  clear rS rD b3 k2 rS2 bw2 rD2 ht hm1 hm2
  go_wp2
  obtain ⟨bw2, rD2, rS2⟩ := P2.out
  have rL := World.rowIs_made w2 (.int .i32 0) n 21
  rw [hz2] at rL
  have bw3 : Below H w (w2.alloc (Obj.cells (madeCells #[Value.int IntKind.i32 0] n) 21)) := bw2.alloc (by omega) _
  refine labels_loop (H + 3) n m rc H ra lab (w2.alloc (Obj.cells (madeCells #[Value.int IntKind.i32 0] n) 21)) _ _ hn (by omega) (by
    have h := HR.out.below bw3
    have e1 : e + (stF c 1).toNat = m := by rw [HT.out]; have := HM.out; omega
    rwa [e1] at h) (by omega) (Kept.refl _ _) rL ?_
  intro u17 u94 u95 u96 u97 u98 u99 u100 u101 u102 u103 u104 u105 u106 u107 u108 u109 w3 k3 rL3
  have hz3 : w3.heap.size = H + 4 := by rw [k3.size]; simp [hz2]
  have bw3' : Below H w w3 := k3.below bw3 (by omega)
  have rD3 := k3.row (rD2.alloc (Obj.cells (madeCells #[Value.int IntKind.i32 0] n) 21)) (by omega)
  have rS3 := k3.row (rS2.alloc (Obj.cells (madeCells #[Value.int IntKind.i32 0] n) 21)) (by omega)
  have P3 := hide (And.intro bw3' (And.intro rD3 (And.intro rS3 rL3)))
  have HK := hide (show (w3.alloc (Obj.cells (madeCells #[Value.int IntKind.i32 0] n) 21)).rowIs (H + 4) 21 n fun _ => .int .i32 0 from by have := World.rowIs_made w3 (.int .i32 0) n 21; rwa [hz3] at this)
  have HL := hide (fun j (hj : j < n) => show (w3.alloc (Obj.cells (madeCells #[Value.int IntKind.i32 0] n) 21)).cell? ⟨H + 3, 0 + j, none⟩ = some (.int .i32 (lab j)) from by rw [Nat.zero_add, (rL3.alloc (Obj.cells (madeCells #[Value.int IntKind.i32 0] n) 21)).cell hj, if_pos hj])
  clear bw2 rD2 rS2 rL bw3 k3 bw3' rD3 rS3 rL3 P2 HR hm hz2
  go_wp2_with (refine wpList_copy_is (by rfl) (.tmp 112) (.tmp 113) 25 25 (by rfl) 21 Yba.underlying25 (by kernel_rfl) (H + 4) 0 n n (H + 3) 0 n n (by rfl) (by rfl) 21 n n (fun _ => .int .i32 0) (fun j => .int .i32 (lab j)) HK.out (by simp) HL.out (by omega) (fun _ _ => rfl) ?_; intro w4 q1 q2; have hz4 : w4.heap.size = H + 5 := (by rw [q2.size]; simp [hz3]); have Q := hide (And.intro q1 q2); clear q1 q2)
  have hb5 : Below (H + 5) w4 (w4.alloc (Obj.cells #[Value.pointer (some { block := H, off := 0 }), Value.nilFunc, Value.pointer none, Value.slice none 0 0, Value.slice none 0 0, Value.slice (some { block := H + 1 + 1, off := 0 }) 1 1, Value.slice none 0 0, Value.slice none 0 0, Value.slice none 0 0, Value.slice none 0 0, Value.slice none 0 0, Value.slice none 0 0, Value.slice none 0 0, Value.slice none 0 0, Value.slice none 0 0, Value.slice none 0 0, Value.pointer none, Value.slice (some { block := H + 3, off := 0 }) n n, Value.int IntKind.i64 0] 43)) := (Below.refl _ _).alloc (by omega) _
  obtain ⟨bw3, rD3, rS3, rL3⟩ := P3.out
  obtain ⟨q1, q2⟩ := Q.out
  have bw4 : Below H w w4 := q2.below (bw3.alloc (by omega) (Obj.cells (madeCells #[Value.int IntKind.i32 0] n) 21)) (by omega)
  have rD4 := (q2.row (rD3.alloc (Obj.cells (madeCells #[Value.int IntKind.i32 0] n) 21)) (by omega)).of_block (hb5.block H (by omega))
  have rS4 := (q2.row (rS3.alloc (Obj.cells (madeCells #[Value.int IntKind.i32 0] n) 21)) (by omega)).of_block (hb5.block (H + 1 + 1) (by omega))
  have rL4 := (q2.row (rL3.alloc (Obj.cells (madeCells #[Value.int IntKind.i32 0] n) 21)) (by omega)).of_block (hb5.block (H + 3) (by omega))
  have rK4 := q1.of_block (hb5.block (H + 4) (by omega))
  have hz5 : (w4.alloc (Obj.cells #[Value.pointer (some { block := H, off := 0 }), Value.nilFunc, Value.pointer none, Value.slice none 0 0, Value.slice none 0 0, Value.slice (some { block := H + 1 + 1, off := 0 }) 1 1, Value.slice none 0 0, Value.slice none 0 0, Value.slice none 0 0, Value.slice none 0 0, Value.slice none 0 0, Value.slice none 0 0, Value.slice none 0 0, Value.slice none 0 0, Value.slice none 0 0, Value.slice none 0 0, Value.pointer none, Value.slice (some { block := H + 3, off := 0 }) n n, Value.int IntKind.i64 0] 43)).heap.size = H + 6 := by simp [hz4]
  have t17 : (w4.alloc (Obj.cells #[Value.pointer (some { block := H, off := 0 }), Value.nilFunc, Value.pointer none, Value.slice none 0 0, Value.slice none 0 0, Value.slice (some { block := H + 1 + 1, off := 0 }) 1 1, Value.slice none 0 0, Value.slice none 0 0, Value.slice none 0 0, Value.slice none 0 0, Value.slice none 0 0, Value.slice none 0 0, Value.slice none 0 0, Value.slice none 0 0, Value.slice none 0 0, Value.slice none 0 0, Value.pointer none, Value.slice (some { block := H + 3, off := 0 }) n n, Value.int IntKind.i64 0] 43)).cell? ⟨H + 5, 17, none⟩ = some (.slice (some ⟨H + 3, 0, none⟩) n n) := (World.cell?_alloc_at _ _ (H + 5) 17 hz4.symm).trans rfl
  refine (runs_any (H + 5) H (H + 1) (H + 1 + 1) (H + 3) 1 n e (stF c) lab (w4.alloc (Obj.cells #[Value.pointer (some { block := H, off := 0 }), Value.nilFunc, Value.pointer none, Value.slice none 0 0, Value.slice none 0 0, Value.slice (some { block := H + 1 + 1, off := 0 }) 1 1, Value.slice none 0 0, Value.slice none 0 0, Value.slice none 0 0, Value.slice none 0 0, Value.slice none 0 0, Value.slice none 0 0, Value.slice none 0 0, Value.slice none 0 0, Value.slice none 0 0, Value.slice none 0 0, Value.pointer none, Value.slice (some { block := H + 3, off := 0 }) n n, Value.int IntKind.i64 0] 43)) (by omega) hn (by omega) (by omega) rfl (fun i _ => stF_nonneg c i) (fun a b h _ => stF_mono c a b h) hlab
    ((World.cell?_alloc_at _ _ (H + 5) 0 hz4.symm).trans rfl) ((World.cell?_alloc_at _ _ (H + 5) 5 hz4.symm).trans rfl) t17 (by rw [rD4.cell (i := 0) (by simp)]; rfl) (fun i h0 h6 => by rw [rD4.cell (i := i) (by simp; omega), if_neg (by omega), if_pos (by omega)]) (fun i hi => by rw [rS4.cell hi, if_pos hi]) (fun i hi => by rw [rL4.cell hi, if_pos hi]) (by omega) (by omega)).mono ?_
  rintro en w5 ⟨v, s, rfl, hS, hRr, b5⟩
  rw [hz5] at hRr b5
  have hbw5 : Below H w w5 := (bw4.trans (hb5.mono (by omega))).trans (b5.mono (by omega))
  have P5 := hide (And.intro hbw5 (And.intro (rS4.of_block (b5.block _ (by omega))) (And.intro (rL4.of_block (b5.block _ (by omega))) (And.intro (rK4.of_block (b5.block _ (by omega))) (And.intro ((b5.cell (p := ⟨H + 5, 17, none⟩) (by show H + 5 < H + 6; omega)).trans t17) hRr)))))
  have hZ : H + 6 ≤ w5.heap.size := by have := b5.size; omega
  obtain ⟨va, vc, rfl⟩ := hRr.len
  clear hb5 bw3 rD3 rS3 rL3 q1 q2 bw4 rD4 rS4 rL4 rK4 t17 hRr b5 hbw5 P3 Q HK HL hz4 hz3 hm3 hz5
  generalize hZ' : w5.heap.size = Z at hZ
  go_wp2
  obtain ⟨bw5, rS5, rL5, rK5, t5, hRr⟩ := P5.out
  have rZ := World.rowIs_made w5 (.bool false) n 4
  rw [hZ'] at rZ
  refine fol_loop (H + 1 + 1) (H + 3) Z 1 n (e : Int) (stF c) lab (w5.alloc (Obj.cells (madeCells #[Value.bool false] n) 4)) _ _ hn (by omega) (by omega) rfl (fun i _ => stF_nonneg c i) (by omega) hlab (by omega) (by omega) (fun i hi => by rw [(rS5.alloc (Obj.cells (madeCells #[Value.bool false] n) 4)).cell hi, if_pos hi]) (fun i hi => by rw [(rL5.alloc (Obj.cells (madeCells #[Value.bool false] n) 4)).cell hi, if_pos hi]) (Kept.refl _ _) rZ ?_
  intro u22 u23 u24 u25 u26 u27 u28 u124 u125 u126 u127 u128 u129 u130 u131 u132 u133 u134 u135 u136 u137 u138 u139 u140 u141 u142 u143 u144 u145 u146 u147 u148 u149 u150 u151 u152 u153 u154 u155 u156 u157 u158 u159 u160 u161 u162 u163 u164 u165 u166 u167 u168 u169 u170 u171 u172 u173 u174 u175 u176 u177 u178 u179 u180 u181 u182 u183 u184 u185 u186 u187 w6 k6 rZ6
  have hz6 : w6.heap.size = Z + 1 := by rw [k6.size]; simp [hZ']
  have b6 : Below Z w5 w6 := k6.below ((Below.refl _ _).alloc (by omega) _) (Nat.le_refl _)
  have P6 := hide (And.intro (bw5.trans (b6.mono (by omega))) (And.intro (rS5.of_block (b6.block _ (by omega))) (And.intro (rL5.of_block (b6.block _ (by omega))) (And.intro (rK5.of_block (b6.block _ (by omega))) (And.intro ((b6.cell (p := ⟨H + 5, 17, none⟩) (by show H + 5 < Z; omega)).trans t5) (And.intro (hRr.below (by rw [hZ']; exact b6)) rZ6))))))
  clear bw5 rS5 rL5 rK5 t5 hRr rZ k6 rZ6 b6 P5 hm4
  go_wp2
  obtain ⟨bw6, rS6, rL6, rK6, t6, hR6, rZ6⟩ := P6.out
  refine from_loop Z n 1 (e : Int) (stF c) lab w6 w6 _ hn (fun i hi => by rw [rZ6.cell hi, if_pos hi]) ?_
  rintro u188 u189 u190 u191 u192 u193 u194 u195 u196 u197 u198 w7 s2 hS2 rfl
  obtain rfl : s = s2 := hS.one (stF c) 1 (e : Int) lab n hS2
  clear bw6 rS6 rL6 rK6 t6 hR6 rZ6 hS2
  go_wp2
  obtain ⟨bw6, rS6, rL6, rK6, t6, hR6, rZ6⟩ := P6.out
  refine model_loop (Z + 1) (H + 1 + 1) (H + 3) Z 1 n s (e : Int) (stF c) lab w7 w7 _ hS hn (by omega) (by omega) rfl (fun i _ => stF_nonneg c i) (by omega) hlab (by omega) (by omega) (by omega) (by omega) (fun i hi => by rw [rS6.cell hi, if_pos hi]) (fun i hi => by rw [rL6.cell hi, if_pos hi]) (fun i hi => by rw [rZ6.cell hi, if_pos hi]) (Below.refl _ _) ?_
  intro u30 u31 u32 u33 u34 u199 u200 u201 u202 u203 u204 u205 u206 u207 u208 u209 u210 u211 u212 u213 u214 u215 u216 u217 u218 u219 u220 u221 u222 u223 u224 u225 u226 u227 u228 u229 u230 u231 u232 u233 u234 u235 u236 u237 u238 u239 u240 u241 u242 u243 u244 u245 u246 u247 u248 u249 u250 u251 u252 u253 u254 u255 u256 u257 u258 u259 u260 w8 hR8 b8
  have hlen := runsTo_length (stF c) 1 (e : Int) lab n s n
  have hRg := hR6.below (by rw [hz6]; exact b8)
  obtain ⟨ma, mc, rfl⟩ := hR8.len
  have P8 := hide (And.intro (bw6.trans (b8.mono (by omega))) (And.intro (rL6.of_block (b8.block _ (by omega))) (And.intro (rK6.of_block (b8.block _ (by omega))) (And.intro ((b8.cell (p := ⟨H + 5, 17, none⟩) (by show H + 5 < Z + 1; omega)).trans t6) (And.intro hRg hR8)))))
  clear bw6 rS6 rL6 rK6 t6 hR6 rZ6 b8 hR8 hRg P6 hS
  generalize runsTo (stF c) 1 (e : Int) lab n s n = R at hlen P8 ⊢
  generalize hRl : R.length = ml at hlen ⊢
  have hmm : ((ml : Int) != (ml : Int)) = false := by simp
  go_wp2
  obtain ⟨bw8, rL8, rK8, t8, hg, hh⟩ := P8.out
  subst hRl
  refine same_loop R.length vc mc va ma (fun i => (R.getD i (0, 0, 0)).1) (fun i => (R.getD i (0, 0, 0)).2.1) (fun i => (R.getD i (0, 0, 0)).2.2) w8 w8 _ (by omega) hg.cells hh.cells ?_
  rintro u6 u35 u266 u267 u268 u269 u270 u271 u272 u273 u274 u275 u276 u277 u278 u279 u280 w9 ⟨q, rfl⟩
  have T8 := hide (And.intro bw8 (And.intro rL8 (And.intro rK8 t8)))
  clear bw8 rL8 rK8 t8 hg hh P8 hmm
  go_wp2
  obtain ⟨bw8, rL8, rK8, t8⟩ := T8.out
  refine keep_loop (H + 4) (H + 3) (H + 5) n lab w8 (w8.drewN q) _ hn t8 (fun i hi => by show w8.cell? _ = _; rw [rL8.cell hi, if_pos hi]) (fun i hi => by show w8.cell? _ = _; rw [rK8.cell hi, if_pos (by omega)]; rfl) ?_
  rintro u6 u36 u281 u282 u283 u284 u285 u286 u287 u288 u289 u290 u291 u292 u293 u294 u295 u296 u297 w10 ⟨q2, rfl⟩
  have HZ := hide bw8
  clear bw8 rL8 rK8 t8 T8
  go_wp2
  go_ret
  exact ⟨rfl, below_drewN (below_drewN HZ.out q) q2⟩

set_option maxRecDepth 1000000 in
set_option maxHeartbeats 8000000 in
theorem law_pos (a0 : Int) (e : Nat) (ca ra : Option Addr) (cl cc n rc : Nat) (c : Nat → Nat) (lab : Nat → Int) (w : World) (h0 : 0 ≤ a0) (h1 : a0 ≤ 255) (he : a0 % 16 = (e : Int)) (hcl : 0 < cl) (hcl2 : cl ≤ 1024) (hn : n ≤ 1024) (hc : CntOk w w.heap.size ca cl cl c) (hr : RawOk w w.heap.size ra n (e + (stF c cl).toNat) lab) (hlab : ∀ i, i < n → 0 ≤ lab i ∧ lab i ≤ 100000) :
    Calls Yba.prog 3 #[.int .u8 a0, .slice ca cl cc, .slice ra n rc] w fun en w' => en = .returned (.bool true) ∧ Below w.heap.size w w' := by
  generalize hH : w.heap.size = H at hc hr ⊢
  have he16 : e ≤ 15 := by omega
  have hm1 : ∀ w : World, (Instr.makeSlice 25 (.int .i32 ((e : Int) + 1)) (.int .i32 ((e : Int) + 1))).run Yba.prog w = .ok (.slice (some ⟨w.heap.size, 0, none⟩) (e + 1) (e + 1)) (w.alloc (Obj.cells (madeCells #[Value.int IntKind.i32 0] (e + 1)) 21)) := fun w => by
    have := run_make_row' (P := Yba.prog) 25 21 (.int .i32 0) 4 Yba.underlying25 info21 rfl .i32 .i32 (e + 1) (by omega) (by omega) w
    rwa [Int.natCast_add] at this
  have hm2 : ∀ w : World, (Instr.makeSlice 25 (.int .i64 (cl : Int)) (.int .i64 (cl : Int))).run Yba.prog w = .ok (.slice (some ⟨w.heap.size, 0, none⟩) cl cl) (w.alloc (Obj.cells (madeCells #[Value.int IntKind.i32 0] cl) 21)) := fun w => run_make_row' (P := Yba.prog) 25 21 (.int .i32 0) 4 Yba.underlying25 info21 rfl .i64 .i64 cl (by omega) (by omega) w
  have hm3 : ∀ w : World, (Instr.makeSlice 25 (.int .i64 (n : Int)) (.int .i64 (n : Int))).run Yba.prog w = .ok (.slice (some ⟨w.heap.size, 0, none⟩) n n) (w.alloc (Obj.cells (madeCells #[Value.int IntKind.i32 0] n) 21)) := fun w => run_make_row' (P := Yba.prog) 25 21 (.int .i32 0) 4 Yba.underlying25 info21 rfl .i64 .i64 n (by omega) (by omega) w
  have hm4 : ∀ w : World, (Instr.makeSlice 46 (.int .i64 (n : Int)) (.int .i64 (n : Int))).run Yba.prog w = .ok (.slice (some ⟨w.heap.size, 0, none⟩) n n) (w.alloc (Obj.cells (madeCells #[Value.bool false] n) 4)) := fun w => run_make_row' (P := Yba.prog) 46 4 (.bool false) 1 Yba.underlying46 info4 rfl .i64 .i64 n (by omega) (by omega) w
  have HC := hide hc
  have HR := hide hr
  clear hc hr
  go_enter Yba.func3, Yba.ntmps3
  go_wp2
  have rS := World.rowIs_made ((w.alloc (Obj.cells #[Value.slice (some { block := H + 1, off := 0 }) (e + 1) (e + 1), Value.slice none 0 0, Value.slice none 0 0, Value.slice none 0 0, Value.slice none 0 0, Value.slice none 0 0, Value.slice none 0 0, Value.slice none 0 0, Value.slice none 0 0, Value.slice none 0 0, Value.pointer none] 36)).alloc (Obj.cells (madeCells #[Value.int IntKind.i32 0] (e + 1)) 21)) (.int .i32 0) cl 21
  have rD := ((World.rowIs_alloc w #[.slice (some ⟨H + 1, 0, none⟩) (e + 1) (e + 1), .slice none 0 0, .slice none 0 0, .slice none 0 0, .slice none 0 0, .slice none 0 0, .slice none 0 0, .slice none 0 0, .slice none 0 0, .slice none 0 0, .pointer none] 36 (fun i => if i = 0 then .slice (some ⟨H + 1, 0, none⟩) (e + 1) (e + 1) else if i < 10 then .slice none 0 0 else .pointer none) (fun i hi => by
    match i, hi with
    | 0, _ => rfl
    | 1, _ => rfl
    | 2, _ => rfl
    | 3, _ => rfl
    | 4, _ => rfl
    | 5, _ => rfl
    | 6, _ => rfl
    | 7, _ => rfl
    | 8, _ => rfl
    | 9, _ => rfl
    | 10, _ => rfl)).alloc (Obj.cells (madeCells #[Value.int IntKind.i32 0] (e + 1)) 21)).alloc (Obj.cells (madeCells #[Value.int IntKind.i32 0] cl) 21)
  simp only [World.size_alloc, hH] at rS rD
  have b3 : Below H w (((w.alloc (Obj.cells #[Value.slice (some { block := H + 1, off := 0 }) (e + 1) (e + 1), Value.slice none 0 0, Value.slice none 0 0, Value.slice none 0 0, Value.slice none 0 0, Value.slice none 0 0, Value.slice none 0 0, Value.slice none 0 0, Value.slice none 0 0, Value.slice none 0 0, Value.pointer none] 36)).alloc (Obj.cells (madeCells #[Value.int IntKind.i32 0] (e + 1)) 21)).alloc (Obj.cells (madeCells #[Value.int IntKind.i32 0] cl) 21)) := (((Below.refl _ _).alloc (by omega) _).alloc (by simp [hH]) _).alloc (by simp [hH] <;> omega) _
  refine starts_loop (H + 1 + 1) cl cl cc H ca c (((w.alloc (Obj.cells #[Value.slice (some { block := H + 1, off := 0 }) (e + 1) (e + 1), Value.slice none 0 0, Value.slice none 0 0, Value.slice none 0 0, Value.slice none 0 0, Value.slice none 0 0, Value.slice none 0 0, Value.slice none 0 0, Value.slice none 0 0, Value.slice none 0 0, Value.pointer none] 36)).alloc (Obj.cells (madeCells #[Value.int IntKind.i32 0] (e + 1)) 21)).alloc (Obj.cells (madeCells #[Value.int IntKind.i32 0] cl) 21)) _ _ (by omega) (HC.out.below b3) (by omega) (Kept.refl _ _) rS ?_
  intro u12 u13 u63 u64 u65 u66 u67 u68 u69 u70 u71 u72 u73 u74 u75 u76 u77 u78 u79 u80 u81 u82 u83 u84 u85 w2 k2 rS2
  have hz2 : w2.heap.size = H + 3 := by rw [k2.size]; simp [hH]
  have bw2 : Below H w w2 := k2.below b3 (by omega)
  have rD2 := k2.row rD (by omega)
  have P2 := hide (And.intro bw2 (And.intro rD2 rS2))
  have hge := stF_nonneg c cl
  have hle := stF_le c HC.out.1 cl
  obtain ⟨tot, ht⟩ : ∃ tot : Nat, stF c cl = (tot : Int) := ⟨_, (Int.toNat_of_nonneg hge).symm⟩
  have hpos : (0 : Int) < stF c cl := stF_mono c 0 cl (by omega)
  have HT := hide ht
  rw [ht] at hge hle hpos ⊢
  obtain ⟨m, hm⟩ : ∃ m : Nat, (e : Int) + (tot : Int) = (m : Int) := ⟨e + tot, by omega⟩
  have HM := hide hm
  have hm8 : m ≤ 5000 := by omega
  clear rS rD b3 k2 rS2 bw2 rD2 ht hm1 hm2
  go_wp2
  obtain ⟨bw2, rD2, rS2⟩ := P2.out
  have rL := World.rowIs_made w2 (.int .i32 0) n 21
  rw [hz2] at rL
  have bw3 : Below H w (w2.alloc (Obj.cells (madeCells #[Value.int IntKind.i32 0] n) 21)) := bw2.alloc (by omega) _
  refine labels_loop (H + 3) n m rc H ra lab (w2.alloc (Obj.cells (madeCells #[Value.int IntKind.i32 0] n) 21)) _ _ hn (by omega) (by
    have h := HR.out.below bw3
    have e1 : e + (stF c cl).toNat = m := by rw [HT.out]; have := HM.out; omega
    rwa [e1] at h) (by omega) (Kept.refl _ _) rL ?_
  intro u17 u94 u95 u96 u97 u98 u99 u100 u101 u102 u103 u104 u105 u106 u107 u108 u109 w3 k3 rL3
  have hz3 : w3.heap.size = H + 4 := by rw [k3.size]; simp [hz2]
  have bw3' : Below H w w3 := k3.below bw3 (by omega)
  have rD3 := k3.row (rD2.alloc (Obj.cells (madeCells #[Value.int IntKind.i32 0] n) 21)) (by omega)
  have rS3 := k3.row (rS2.alloc (Obj.cells (madeCells #[Value.int IntKind.i32 0] n) 21)) (by omega)
  have P3 := hide (And.intro bw3' (And.intro rD3 (And.intro rS3 rL3)))
  have HK := hide (show (w3.alloc (Obj.cells (madeCells #[Value.int IntKind.i32 0] n) 21)).rowIs (H + 4) 21 n fun _ => .int .i32 0 from by have := World.rowIs_made w3 (.int .i32 0) n 21; rwa [hz3] at this)
  have HL := hide (fun j (hj : j < n) => show (w3.alloc (Obj.cells (madeCells #[Value.int IntKind.i32 0] n) 21)).cell? ⟨H + 3, 0 + j, none⟩ = some (.int .i32 (lab j)) from by rw [Nat.zero_add, (rL3.alloc (Obj.cells (madeCells #[Value.int IntKind.i32 0] n) 21)).cell hj, if_pos hj])
  clear bw2 rD2 rS2 rL bw3 k3 bw3' rD3 rS3 rL3 P2 HR hm hz2
  go_wp2_with (refine wpList_copy_is (by rfl) (.tmp 112) (.tmp 113) 25 25 (by rfl) 21 Yba.underlying25 (by kernel_rfl) (H + 4) 0 n n (H + 3) 0 n n (by rfl) (by rfl) 21 n n (fun _ => .int .i32 0) (fun j => .int .i32 (lab j)) HK.out (by simp) HL.out (by omega) (fun _ _ => rfl) ?_; intro w4 q1 q2; have hz4 : w4.heap.size = H + 5 := (by rw [q2.size]; simp [hz3]); have Q := hide (And.intro q1 q2); clear q1 q2)
  have hb5 : Below (H + 5) w4 (w4.alloc (Obj.cells #[Value.pointer (some { block := H, off := 0 }), Value.nilFunc, Value.pointer none, Value.slice none 0 0, Value.slice none 0 0, Value.slice (some { block := H + 1 + 1, off := 0 }) cl cl, Value.slice none 0 0, Value.slice none 0 0, Value.slice none 0 0, Value.slice none 0 0, Value.slice none 0 0, Value.slice none 0 0, Value.slice none 0 0, Value.slice none 0 0, Value.slice none 0 0, Value.slice none 0 0, Value.pointer none, Value.slice (some { block := H + 3, off := 0 }) n n, Value.int IntKind.i64 0] 43)) := (Below.refl _ _).alloc (by omega) _
  obtain ⟨bw3, rD3, rS3, rL3⟩ := P3.out
  obtain ⟨q1, q2⟩ := Q.out
  have bw4 : Below H w w4 := q2.below (bw3.alloc (by omega) (Obj.cells (madeCells #[Value.int IntKind.i32 0] n) 21)) (by omega)
  have rD4 := (q2.row (rD3.alloc (Obj.cells (madeCells #[Value.int IntKind.i32 0] n) 21)) (by omega)).of_block (hb5.block H (by omega))
  have rS4 := (q2.row (rS3.alloc (Obj.cells (madeCells #[Value.int IntKind.i32 0] n) 21)) (by omega)).of_block (hb5.block (H + 1 + 1) (by omega))
  have rL4 := (q2.row (rL3.alloc (Obj.cells (madeCells #[Value.int IntKind.i32 0] n) 21)) (by omega)).of_block (hb5.block (H + 3) (by omega))
  have rK4 := q1.of_block (hb5.block (H + 4) (by omega))
  have hz5 : (w4.alloc (Obj.cells #[Value.pointer (some { block := H, off := 0 }), Value.nilFunc, Value.pointer none, Value.slice none 0 0, Value.slice none 0 0, Value.slice (some { block := H + 1 + 1, off := 0 }) cl cl, Value.slice none 0 0, Value.slice none 0 0, Value.slice none 0 0, Value.slice none 0 0, Value.slice none 0 0, Value.slice none 0 0, Value.slice none 0 0, Value.slice none 0 0, Value.slice none 0 0, Value.slice none 0 0, Value.pointer none, Value.slice (some { block := H + 3, off := 0 }) n n, Value.int IntKind.i64 0] 43)).heap.size = H + 6 := by simp [hz4]
  have t17 : (w4.alloc (Obj.cells #[Value.pointer (some { block := H, off := 0 }), Value.nilFunc, Value.pointer none, Value.slice none 0 0, Value.slice none 0 0, Value.slice (some { block := H + 1 + 1, off := 0 }) cl cl, Value.slice none 0 0, Value.slice none 0 0, Value.slice none 0 0, Value.slice none 0 0, Value.slice none 0 0, Value.slice none 0 0, Value.slice none 0 0, Value.slice none 0 0, Value.slice none 0 0, Value.slice none 0 0, Value.pointer none, Value.slice (some { block := H + 3, off := 0 }) n n, Value.int IntKind.i64 0] 43)).cell? ⟨H + 5, 17, none⟩ = some (.slice (some ⟨H + 3, 0, none⟩) n n) := (World.cell?_alloc_at _ _ (H + 5) 17 hz4.symm).trans rfl
  refine (runs_any (H + 5) H (H + 1) (H + 1 + 1) (H + 3) cl n e (stF c) lab (w4.alloc (Obj.cells #[Value.pointer (some { block := H, off := 0 }), Value.nilFunc, Value.pointer none, Value.slice none 0 0, Value.slice none 0 0, Value.slice (some { block := H + 1 + 1, off := 0 }) cl cl, Value.slice none 0 0, Value.slice none 0 0, Value.slice none 0 0, Value.slice none 0 0, Value.slice none 0 0, Value.slice none 0 0, Value.slice none 0 0, Value.slice none 0 0, Value.slice none 0 0, Value.slice none 0 0, Value.pointer none, Value.slice (some { block := H + 3, off := 0 }) n n, Value.int IntKind.i64 0] 43)) (by omega) hn (by omega) (by omega) rfl (fun i _ => stF_nonneg c i) (fun a b h _ => stF_mono c a b h) hlab
    ((World.cell?_alloc_at _ _ (H + 5) 0 hz4.symm).trans rfl) ((World.cell?_alloc_at _ _ (H + 5) 5 hz4.symm).trans rfl) t17 (by rw [rD4.cell (i := 0) (by simp)]; rfl) (fun i h0 h6 => by rw [rD4.cell (i := i) (by simp; omega), if_neg (by omega), if_pos (by omega)]) (fun i hi => by rw [rS4.cell hi, if_pos hi]) (fun i hi => by rw [rL4.cell hi, if_pos hi]) (by omega) (by omega)).mono ?_
  rintro en w5 ⟨v, s, rfl, hS, hRr, b5⟩
  rw [hz5] at hRr b5
  have hbw5 : Below H w w5 := (bw4.trans (hb5.mono (by omega))).trans (b5.mono (by omega))
  have P5 := hide (And.intro hbw5 (And.intro (rS4.of_block (b5.block _ (by omega))) (And.intro (rL4.of_block (b5.block _ (by omega))) (And.intro (rK4.of_block (b5.block _ (by omega))) (And.intro ((b5.cell (p := ⟨H + 5, 17, none⟩) (by show H + 5 < H + 6; omega)).trans t17) hRr)))))
  have hZ : H + 6 ≤ w5.heap.size := by have := b5.size; omega
  obtain ⟨va, vc, rfl⟩ := hRr.len
  clear hb5 bw3 rD3 rS3 rL3 q1 q2 bw4 rD4 rS4 rL4 rK4 t17 hRr b5 hbw5 P3 Q HK HL hz4 hz3 hm3 hz5
  generalize hZ' : w5.heap.size = Z at hZ
  go_wp2
  obtain ⟨bw5, rS5, rL5, rK5, t5, hRr⟩ := P5.out
  have rZ := World.rowIs_made w5 (.bool false) n 4
  rw [hZ'] at rZ
  refine fol_loop (H + 1 + 1) (H + 3) Z cl n (e : Int) (stF c) lab (w5.alloc (Obj.cells (madeCells #[Value.bool false] n) 4)) _ _ hn (by omega) (by omega) rfl (fun i _ => stF_nonneg c i) (by omega) hlab (by omega) (by omega) (fun i hi => by rw [(rS5.alloc (Obj.cells (madeCells #[Value.bool false] n) 4)).cell hi, if_pos hi]) (fun i hi => by rw [(rL5.alloc (Obj.cells (madeCells #[Value.bool false] n) 4)).cell hi, if_pos hi]) (Kept.refl _ _) rZ ?_
  intro u22 u23 u24 u25 u26 u27 u28 u124 u125 u126 u127 u128 u129 u130 u131 u132 u133 u134 u135 u136 u137 u138 u139 u140 u141 u142 u143 u144 u145 u146 u147 u148 u149 u150 u151 u152 u153 u154 u155 u156 u157 u158 u159 u160 u161 u162 u163 u164 u165 u166 u167 u168 u169 u170 u171 u172 u173 u174 u175 u176 u177 u178 u179 u180 u181 u182 u183 u184 u185 u186 u187 w6 k6 rZ6
  have hz6 : w6.heap.size = Z + 1 := by rw [k6.size]; simp [hZ']
  have b6 : Below Z w5 w6 := k6.below ((Below.refl _ _).alloc (by omega) _) (Nat.le_refl _)
  have P6 := hide (And.intro (bw5.trans (b6.mono (by omega))) (And.intro (rS5.of_block (b6.block _ (by omega))) (And.intro (rL5.of_block (b6.block _ (by omega))) (And.intro (rK5.of_block (b6.block _ (by omega))) (And.intro ((b6.cell (p := ⟨H + 5, 17, none⟩) (by show H + 5 < Z; omega)).trans t5) (And.intro (hRr.below (by rw [hZ']; exact b6)) rZ6))))))
  clear bw5 rS5 rL5 rK5 t5 hRr rZ k6 rZ6 b6 P5 hm4
  go_wp2
  obtain ⟨bw6, rS6, rL6, rK6, t6, hR6, rZ6⟩ := P6.out
  refine from_loop Z n cl (e : Int) (stF c) lab w6 w6 _ hn (fun i hi => by rw [rZ6.cell hi, if_pos hi]) ?_
  rintro u188 u189 u190 u191 u192 u193 u194 u195 u196 u197 u198 w7 s2 hS2 rfl
  obtain rfl : s = s2 := hS.one (stF c) cl (e : Int) lab n hS2
  clear bw6 rS6 rL6 rK6 t6 hR6 rZ6 hS2
  go_wp2
  obtain ⟨bw6, rS6, rL6, rK6, t6, hR6, rZ6⟩ := P6.out
  refine model_loop (Z + 1) (H + 1 + 1) (H + 3) Z cl n s (e : Int) (stF c) lab w7 w7 _ hS hn (by omega) (by omega) rfl (fun i _ => stF_nonneg c i) (by omega) hlab (by omega) (by omega) (by omega) (by omega) (fun i hi => by rw [rS6.cell hi, if_pos hi]) (fun i hi => by rw [rL6.cell hi, if_pos hi]) (fun i hi => by rw [rZ6.cell hi, if_pos hi]) (Below.refl _ _) ?_
  intro u30 u31 u32 u33 u34 u199 u200 u201 u202 u203 u204 u205 u206 u207 u208 u209 u210 u211 u212 u213 u214 u215 u216 u217 u218 u219 u220 u221 u222 u223 u224 u225 u226 u227 u228 u229 u230 u231 u232 u233 u234 u235 u236 u237 u238 u239 u240 u241 u242 u243 u244 u245 u246 u247 u248 u249 u250 u251 u252 u253 u254 u255 u256 u257 u258 u259 u260 w8 hR8 b8
  have hlen := runsTo_length (stF c) cl (e : Int) lab n s n
  have hRg := hR6.below (by rw [hz6]; exact b8)
  obtain ⟨ma, mc, rfl⟩ := hR8.len
  have P8 := hide (And.intro (bw6.trans (b8.mono (by omega))) (And.intro (rL6.of_block (b8.block _ (by omega))) (And.intro (rK6.of_block (b8.block _ (by omega))) (And.intro ((b8.cell (p := ⟨H + 5, 17, none⟩) (by show H + 5 < Z + 1; omega)).trans t6) (And.intro hRg hR8)))))
  clear bw6 rS6 rL6 rK6 t6 hR6 rZ6 b8 hR8 hRg P6 hS
  generalize runsTo (stF c) cl (e : Int) lab n s n = R at hlen P8 ⊢
  generalize hRl : R.length = ml at hlen ⊢
  have hmm : ((ml : Int) != (ml : Int)) = false := by simp
  go_wp2
  obtain ⟨bw8, rL8, rK8, t8, hg, hh⟩ := P8.out
  subst hRl
  refine same_loop R.length vc mc va ma (fun i => (R.getD i (0, 0, 0)).1) (fun i => (R.getD i (0, 0, 0)).2.1) (fun i => (R.getD i (0, 0, 0)).2.2) w8 w8 _ (by omega) hg.cells hh.cells ?_
  rintro u6 u35 u266 u267 u268 u269 u270 u271 u272 u273 u274 u275 u276 u277 u278 u279 u280 w9 ⟨q, rfl⟩
  have T8 := hide (And.intro bw8 (And.intro rL8 (And.intro rK8 t8)))
  clear bw8 rL8 rK8 t8 hg hh P8 hmm
  go_wp2
  obtain ⟨bw8, rL8, rK8, t8⟩ := T8.out
  refine keep_loop (H + 4) (H + 3) (H + 5) n lab w8 (w8.drewN q) _ hn t8 (fun i hi => by show w8.cell? _ = _; rw [rL8.cell hi, if_pos hi]) (fun i hi => by show w8.cell? _ = _; rw [rK8.cell hi, if_pos (by omega)]; rfl) ?_
  rintro u6 u36 u281 u282 u283 u284 u285 u286 u287 u288 u289 u290 u291 u292 u293 u294 u295 u296 u297 w10 ⟨q2, rfl⟩
  have HZ := hide bw8
  clear bw8 rL8 rK8 t8 T8
  go_wp2
  go_ret
  exact ⟨rfl, below_drewN (below_drewN HZ.out q) q2⟩

end Go.Proofs.Ybulkbfhw
