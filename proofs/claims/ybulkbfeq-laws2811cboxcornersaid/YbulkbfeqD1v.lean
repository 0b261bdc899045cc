/- WRITTEN BY PROGRAM (gen.py): the loops of (*simplex).begin at dimension 1. -/
import Derived.Test.YbulkbfeqSmall
import Derived.Test.YbulkbfeqKept
import Derived.WalkKit
import Derived.WalkSpells
import Derived.WalkLawsBesides
import Derived.Deep.OwnRows
import Derived.Deep.QuietTactic
import Derived.BigQuiet
import Derived.BigRegion
import Derived.Deep.RegionHeld3
import Derived.Deep.RegionWith
import Derived.Deep.DrawnRows
import Derived.Deep.DeepMust
import Derived.Test.YbulkbfeqD1f
import Derived.Test.YbulkbfeqD1g
import Derived.Test.YbulkbfeqD1i
import Derived.Test.YbulkbfeqD1w
namespace Go.Proofs.Ybulkbfeq.D1
open Go.RowKit
attribute [local go_sem] run_store_float
attribute [local go_sem ↓] Go.wp_at_zero Go.wp_at_succ
set_option linter.unusedVariables false
/-- WHAT THE CALL LEAVES: the basis and the bounds; the walk over the columns stopped at a column without a pivot, or the inverse is laid and the multipliers are reckoned up to the first negative one. -/
def beginBPost (S : Nat) (A0 B1 W X I : Nat → Nat) (Ba1 : Nat → Int) (w : World) (ok : Bool) (w' : World) : Prop :=
  Below (S + 1) w w' ∧ (w'.rowIs (S + 2) 26 1 fun i => FV (B1 i)) ∧ (w'.rowIs (S + 7) 3 1 fun i => .int .i64 (Ba1 i)) ∧
  (((∃ c, c < 1 ∧ sing 1 c (colsF 1 A0 c) = true) ∧ ok = false) ∨
   ((∀ c, c < 1 → sing 1 c (colsF 1 A0 c) = false) ∧ (w'.rowIs (S + 1) 26 1 fun i => FV (invJ 1 1 (colsF 1 A0 1) I i)) ∧
    ((∃ j, j < 1 ∧ (∀ i, i < j → flt (sumN 1 i (invJ 1 1 (colsF 1 A0 1) I) W 1) 0 = false) ∧ flt (sumN 1 j (invJ 1 1 (colsF 1 A0 1) I) W 1) 0 = true ∧ ok = false ∧ (w'.rowIs (S + 3) 26 1 fun i => FV (wtJ 1 j (invJ 1 1 (colsF 1 A0 1) I) W X i))) ∨
     ((∀ i, i < 1 → flt (sumN 1 i (invJ 1 1 (colsF 1 A0 1) I) W 1) 0 = false) ∧ ok = true ∧ (w'.rowIs (S + 3) 26 1 fun i => FV (wtJ 1 1 (invJ 1 1 (colsF 1 A0 1) I) W X i))))))
theorem beginB_info : (Yba.prog.info? 26).map (fun i => (i.zero, i.size, i.bytes)) = some (some (FV 0), 1, 8) := by kernel_rfl
set_option maxRecDepth 1000000 in
set_option maxHeartbeats 16000000 in
theorem beginB_any (S R St Lb Hb V : Nat) (L m : Nat) (C Lo Hi : Nat → Nat) (W B X I : Nat → Nat) (Ba : Nat → Int) (w : World) (hRS : R < S) (hSS : St < S) (hVS : V < S) (hSN : S + 7 < w.heap.size) (hL : L ≤ 1000) (hm : (L : Int) / 1 = (m : Int)) (hC : ∀ r, r < 1 → C r < 2) (hLS : Lb < S) (hHS : Hb < S) (hstart : ∀ r, r < 1 → w.cell? ⟨St, r, none⟩ = some (.int .i64 ((m + C r : Nat) : Int))) (hLo : ∀ i, i < 1 → w.cell? ⟨Lb, i, none⟩ = some (FV (Lo i))) (hHi : ∀ i, i < 1 → w.cell? ⟨Hb, i, none⟩ = some (FV (Hi i)))
    (h0 : w.cell? ⟨S, 0, none⟩ = some (.int .i64 1)) (h1 : w.cell? ⟨S, 1, none⟩ = some (.slice (some ⟨S + 1, 0, none⟩) 1 1)) (h2 : w.cell? ⟨S, 2, none⟩ = some (.slice (some ⟨S + 2, 0, none⟩) 1 1)) (h3 : w.cell? ⟨S, 3, none⟩ = some (.slice (some ⟨S + 3, 0, none⟩) 1 1)) (h7 : w.cell? ⟨S, 7, none⟩ = some (.slice (some ⟨S + 7, 0, none⟩) 1 1))
    (hV : ∀ i, i < 1 → w.cell? ⟨V, i, none⟩ = some (FV (W i)))
    (hI : w.rowIs (S + 1) 26 1 fun i => FV (I i)) (hB : w.rowIs (S + 2) 26 1 fun i => FV (B i)) (hX : w.rowIs (S + 3) 26 1 fun i => FV (X i)) (hBa : w.rowIs (S + 7) 3 1 fun i => .int .i64 (Ba i))
    (hv : ∀ c, c < 1 → (∀ c', c' ≤ c → sing 1 c' (colsF 1 (fillB 1 C 1) c') = false) → okCol 1 c (colsF 1 (fillB 1 C 1) c))
    (hv2 : (∀ c, c < 1 → sing 1 c (colsF 1 (fillB 1 C 1) c) = false) → ∀ j, j < 1 → (∀ i, i < j → flt (sumN 1 i (invJ 1 1 (colsF 1 (fillB 1 C 1) 1) I) W 1) 0 = false) → okSum 1 j (invJ 1 1 (colsF 1 (fillB 1 C 1) 1) I) W) :
    Calls Yba.prog 7 #[.pointer (some ⟨S, 0, none⟩), .slice (some ⟨St, 0, none⟩) 1 1, .slice (some ⟨R, 0, none⟩) L L, .slice (some ⟨Lb, 0, none⟩) 1 1, .slice (some ⟨Hb, 0, none⟩) 1 1, .slice (some ⟨V, 0, none⟩) 1 1] w
      fun e w' => ∃ ok, e = .returned (.bool ok) ∧ beginBPost S (fillB 1 C 1) (fun i => (if i < 1 then (if C i % 2 = 0 then Hi (C i / 2) else fneg (Lo (C i / 2))) else B i)) W X I (fun i => if i < 1 then ((m + C i : Nat) : Int) else Ba i) w ok w' := by
      obtain rfl : m = L := by omega
      have hmk : ∀ w : World, (Instr.makeSlice 24 (.int .i64 2) (.int .i64 2)).run Yba.prog w = .ok (.slice (some ⟨w.heap.size, 0, none⟩) 2 2) (w.alloc (.cells (madeCells #[FV 0] 2) 26)) := fun w => run_make_row' 24 26 (FV 0) 8 Yba.underlying24 beginB_info rfl .i64 .i64 2 (by omega) (by omega) w
      have k : ∀ j, (w.alloc (.cells (madeCells #[FV 0] 2) 26)).cell? ⟨S, j, none⟩ = w.cell? ⟨S, j, none⟩ := fun j => World.cell?_alloc_lt _ _ _ (by show S < w.heap.size; omega)
      have k1 := (k 1).trans h1
      have k2 := (k 2).trans h2
      have k3 := (k 3).trans h3
      have k7 := (k 7).trans h7
      have hst : ∀ r, r < 1 → (w.alloc (.cells (madeCells #[FV 0] 2) 26)).cell? ⟨St, r, none⟩ = some (.int .i64 ((m + C r : Nat) : Int)) := fun i hi => by rw [World.cell?_alloc_lt _ _ _ (by show St < w.heap.size; omega)]; exact hstart i hi
      have kV : ∀ i, i < 1 → (w.alloc (.cells (madeCells #[FV 0] 2) 26)).cell? ⟨V, i, none⟩ = some (FV (W i)) := fun i hi => by rw [World.cell?_alloc_lt _ _ _ (by show V < w.heap.size; omega)]; exact hV i hi
      have kLo : ∀ i, i < 1 → (w.alloc (.cells (madeCells #[FV 0] 2) 26)).cell? ⟨Lb, i, none⟩ = some (FV (Lo i)) := fun i hi => by rw [World.cell?_alloc_lt _ _ _ (by show Lb < w.heap.size; omega)]; exact hLo i hi
      have kHi : ∀ i, i < 1 → (w.alloc (.cells (madeCells #[FV 0] 2) 26)).cell? ⟨Hb, i, none⟩ = some (FV (Hi i)) := fun i hi => by rw [World.cell?_alloc_lt _ _ _ (by show Hb < w.heap.size; omega)]; exact hHi i hi
      have kI := hI.alloc (.cells (madeCells #[FV 0] 2) 26)
      have kb : Below (S + 1) w (w.alloc (.cells (madeCells #[FV 0] 2) 26)) := (Below.refl _ _).alloc (by omega) _
      have PK := hide (And.intro k1 (And.intro k2 (And.intro k3 (And.intro k7 (And.intro kV (And.intro kI kb))))))
      have PV := hide (And.intro hv hv2)
      clear hv hv2 k1 k2 k3 k7 kV kI kb k
      go_enter Yba.func7, Yba.ntmps7
      go_wp2
      obtain ⟨k1, k2, k3, k7, kV, kI, kb⟩ := PK.out
      refine fillB_loop S w.heap.size St Lb Hb m C Lo Hi B X Ba (w.alloc (.cells (madeCells #[FV 0] 2) 26)) _ _ hSS hLS hHS hSN hC (by omega) (Below.refl _ _) k2 k7 hst kLo kHi (World.rowIs_made w (FV 0) 2 26) (hB.alloc _) (hX.alloc _) (hBa.alloc _) ?_
      intro u16 u17 u18 u19 u48 u49 u50 u51 u52 u53 u54 u55 u56 u57 u58 u59 u60 u61 u62 u63 u64 u65 u66 u67 u68 u69 u70 u71 u72 u73 u74 u75 u76 u77 u78 u79 u80 u81 u82 u83 u84 u85 u86 u87 u88 u89 u90 u91 u92 u93 u94 u95 u96 u97 u98 u99 u100 u101 u102 u103 u104 u105 u106 u107 u108 u109 u110 u111 u112 u113 u114 u115 u116 u117 u118 u119 u120 u121 u122 u123 u124 u125 u126 u127 u128 u129 u130 u131 u132 u133 u134 w2 hb2 rN rB rX rBa
      have j1 := (hb2.cell (p := ⟨S, 1, none⟩) (by show S < S + 2; omega)).trans k1
      have j3 := (hb2.cell (p := ⟨S, 3, none⟩) (by show S < S + 2; omega)).trans k3
      have jV : ∀ i, i < 1 → w2.cell? ⟨V, i, none⟩ = some (FV (W i)) := fun i hi => (hb2.cell (p := ⟨V, i, none⟩) (by show V < S + 2; omega)).trans (kV i hi)
      have jI := kI.of_block (hb2.block (S + 1) (by omega))
      have jb : Below (S + 1) w w2 := kb.trans (hb2.mono (by omega))
      have PJ := hide (And.intro j1 (And.intro j3 (And.intro jV (And.intro jI (And.intro jb (And.intro rB (And.intro rX (And.intro rBa rN))))))))
      clear j1 j3 jV jI jb rB rX rBa rN k1 k2 k3 k7 kV kI kb PK hb2 hB hX hBa hI h0 h1 h2 h3 h7 hV hst hmk
      go_wp2
      obtain ⟨j1, j3, jV, jI, jb, rB, rX, rBa, rN⟩ := PJ.out
      refine cols_loop w.heap.size (fillB 1 C 1) w2 w2 _ (Below.refl _ _) rN PV.out.1 ?_ ?_
      · intro u12 u20 u21 u22 u23 u24 u25 u26 u27 u28 u136 u137 u138 u139 u140 u141 u142 u143 u144 u145 u146 u147 u148 u149 u150 u151 u152 u153 u154 u155 u156 u157 u158 u159 u160 u161 u162 u163 u164 u165 u166 u167 u168 u169 u170 u171 u172 u173 u174 u175 u176 u177 u178 u179 u180 u181 u182 u183 u184 u185 u186 u187 u188 u189 u190 u191 u192 u193 u194 u195 u196 u197 u198 u199 u200 u201 u202 u203 u204 u205 u206 u207 u208 u209 u210 u211 u212 u213 u214 u215 u216 u217 u218 u219 u220 u221 u222 u223 u224 u225 u226 u227 u228 u229 u230 u231 u232 u233 u234 u235 u236 u237 u238 u239 u240 u241 u242 u243 u244 u245 u246 u247 u248 u249 u250 u251 u252 u253 u254 u255 u256 u257 u258 u259 u260 u261 u262 u263 u264 u265 u266 u267 u268 u269 u270 u271 u272 u273 u274 u275 u276 u277 u278 u279 u280 u281 u282 u283 u284 u285 u286 u287 u288 u289 u290 u291 u292 u293 u294 u295 u296 w3 hb3 rN3 hns
        have PM := hide (And.intro ((hb3.cell (p := ⟨S, 1, none⟩) (by show S < w.heap.size; omega)).trans j1) (And.intro ((hb3.cell (p := ⟨S, 3, none⟩) (by show S < w.heap.size; omega)).trans j3) (And.intro (show ∀ i, i < 1 → w3.cell? ⟨V, i, none⟩ = some (FV (W i)) from fun i hi => (hb3.cell (p := ⟨V, i, none⟩) (by show V < w.heap.size; omega)).trans (jV i hi)) (And.intro (jI.of_block (hb3.block (S + 1) (by omega))) (And.intro (jb.trans (hb3.mono (by omega))) (And.intro (rB.of_block (hb3.block (S + 2) (by omega))) (And.intro (rX.of_block (hb3.block (S + 3) (by omega))) (And.intro (rBa.of_block (hb3.block (S + 7) (by omega))) rN3))))))))
        have HN := hide hns
        clear j1 j3 jV jI jb rB rX rBa rN PJ hb3 rN3 hns
        go_wp2
        obtain ⟨m1, m3, mV, mI, mb, mB, mX, mBa, mN⟩ := PM.out
        refine inv_loop S w.heap.size (colsF 1 (fillB 1 C 1) 1) I w3 w3 _ (by omega) (Kept.refl _ _) m1 mI mN ?_
        intro u29 u298 u299 u300 u301 u302 u303 u304 u305 u306 u307 u308 u309 u310 u311 u312 u313 u314 u315 u316 u317 u318 u319 u320 u321 u322 u323 u324 u325 u326 u327 w4 hk4 rI4
        have PL := hide (And.intro ((hk4.cell (a := ⟨S, 1, none⟩) (by show S ≠ S + 1; omega)).trans m1) (And.intro ((hk4.cell (a := ⟨S, 3, none⟩) (by show S ≠ S + 1; omega)).trans m3) (And.intro (show ∀ i, i < 1 → w4.cell? ⟨V, i, none⟩ = some (FV (W i)) from fun i hi => (hk4.cell (a := ⟨V, i, none⟩) (by show V ≠ S + 1; omega)).trans (mV i hi)) (And.intro (hk4.below mb (by omega)) (And.intro (hk4.row mB (by omega)) (And.intro (hk4.row mX (by omega)) (And.intro (hk4.row mBa (by omega)) rI4)))))))
        clear m1 m3 mV mI mb mB mX mBa mN PM hk4 rI4
        go_wp2
        obtain ⟨l1, l3, lV, lb, lB, lX, lBa, lI⟩ := PL.out
        refine wts_loop S V _ W X w4 w4 _ hVS (Kept.refl _ _) l1 l3 lI lX lV (PV.out.2 HN.out) ?_ ?_
        · intro u12 u30 u31 u32 u329 u330 u331 u332 u333 u334 u335 u336 u337 u338 u339 u340 u341 u342 u343 u344 u345 u346 u347 u348 u349 u350 u351 u352 u353 u354 u355 u356 u357 u358 u359 u360 u361 u362 u363 u364 w5 hk5 rX5 hall
          have PF := hide (show beginBPost S (fillB 1 C 1) (fun i => (if i < 1 then (if C i % 2 = 0 then Hi (C i / 2) else fneg (Lo (C i / 2))) else B i)) W X I (fun i => if i < 1 then ((m + C i : Nat) : Int) else Ba i) w true w5 from ⟨hk5.below lb (by omega), hk5.row lB (by omega), hk5.row lBa (by omega), .inr ⟨HN.out, hk5.row lI (by omega), .inr ⟨hall, rfl, rX5⟩⟩⟩)
          clear l1 l3 lV lb lB lX lBa lI PL hk5 rX5 hall
          go_wp2
          go_ret
          exact ⟨true, rfl, PF.out⟩
        · intro u30 u31 u32 u329 u330 u331 u332 u333 u334 u335 u336 u337 u338 u339 u340 u341 u342 u343 u344 u345 u346 u347 u348 u349 u350 u351 u352 u353 u354 u355 u356 u357 u358 u359 u360 u361 u362 u363 u364 w5 j hj hk5 rX5 hbefore hneg
          have PF := hide (show beginBPost S (fillB 1 C 1) (fun i => (if i < 1 then (if C i % 2 = 0 then Hi (C i / 2) else fneg (Lo (C i / 2))) else B i)) W X I (fun i => if i < 1 then ((m + C i : Nat) : Int) else Ba i) w false w5 from ⟨hk5.below lb (by omega), hk5.row lB (by omega), hk5.row lBa (by omega), .inr ⟨HN.out, hk5.row lI (by omega), .inl ⟨j, hj, hbefore, hneg, rfl, rX5⟩⟩⟩)
          clear l1 l3 lV lb lB lX lBa lI PL hk5 rX5 hbefore hneg
          go_ret
          exact ⟨false, rfl, PF.out⟩
      · intro u20 u21 u22 u23 u24 u25 u26 u27 u28 u136 u137 u138 u139 u140 u141 u142 u143 u144 u145 u146 u147 u148 u149 u150 u151 u152 u153 u154 u155 u156 u157 u158 u159 u160 u161 u162 u163 u164 u165 u166 u167 u168 u169 u170 u171 u172 u173 u174 u175 u176 u177 u178 u179 u180 u181 u182 u183 u184 u185 u186 u187 u188 u189 u190 u191 u192 u193 u194 u195 u196 u197 u198 u199 u200 u201 u202 u203 u204 u205 u206 u207 u208 u209 u210 u211 u212 u213 u214 u215 u216 u217 u218 u219 u220 u221 u222 u223 u224 u225 u226 u227 u228 u229 u230 u231 u232 u233 u234 u235 u236 u237 u238 u239 u240 u241 u242 u243 u244 u245 u246 u247 u248 u249 u250 u251 u252 u253 u254 u255 u256 u257 u258 u259 u260 u261 u262 u263 u264 u265 u266 u267 u268 u269 u270 u271 u272 u273 u274 u275 u276 u277 u278 u279 u280 u281 u282 u283 u284 u285 u286 u287 u288 u289 u290 u291 u292 u293 u294 u295 u296 w3 hb3 hs
        have PF := hide (show beginBPost S (fillB 1 C 1) (fun i => (if i < 1 then (if C i % 2 = 0 then Hi (C i / 2) else fneg (Lo (C i / 2))) else B i)) W X I (fun i => if i < 1 then ((m + C i : Nat) : Int) else Ba i) w false w3 from ⟨jb.trans (hb3.mono (by omega)), rB.of_block (hb3.block (S + 2) (by omega)), rBa.of_block (hb3.block (S + 7) (by omega)), .inl ⟨hs, rfl⟩⟩)
        clear j1 j3 jV jI jb rB rX rBa rN PJ hb3 hs
        go_ret
        exact ⟨false, rfl, PF.out⟩

end Go.Proofs.Ybulkbfeq.D1
