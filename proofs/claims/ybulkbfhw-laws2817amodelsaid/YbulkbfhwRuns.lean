/- (*orderTrial).runs: the runs of the circle. -/
import Derived.Test.YbulkbfhwR1
import Derived.Test.YbulkbfhwR2
import Derived.Deep.Onto
namespace Go.Proofs.Ybulkbfhw
open Go.RowKit
attribute [local go_sem ↓] Go.wp_at_zero Go.wp_at_succ
set_option linter.unusedVariables false

theorem run_store_func {P : Program} {w : World} {a : Addr} {m : Mode} (fn : Fn) (x y : Array Value) : (store a (.func fn x y) m).run P w = stored P w a (.func fn x y) m := run_store P w a _ m rfl
attribute [local go_sem] run_store_func

theorem four_new (w : World) (G : Nat) (hG : w.heap.size = G) (a b c d : Value) (ta tb tc td : TypeId) :
    Below G w ((((w.alloc (.cells #[a] ta)).alloc (.cells #[b] tb)).alloc (.cells #[c] tc)).alloc (.cells #[d] td)) ∧ ((((w.alloc (.cells #[a] ta)).alloc (.cells #[b] tb)).alloc (.cells #[c] tc)).alloc (.cells #[d] td)).heap.size = G + 4 ∧
    ((((w.alloc (.cells #[a] ta)).alloc (.cells #[b] tb)).alloc (.cells #[c] tc)).alloc (.cells #[d] td)).cell? ⟨G, 0, none⟩ = some a ∧ ((((w.alloc (.cells #[a] ta)).alloc (.cells #[b] tb)).alloc (.cells #[c] tc)).alloc (.cells #[d] td)).cell? ⟨G + 1, 0, none⟩ = some b ∧
    ((((w.alloc (.cells #[a] ta)).alloc (.cells #[b] tb)).alloc (.cells #[c] tc)).alloc (.cells #[d] td)).cell? ⟨G + 1 + 1, 0, none⟩ = some c ∧ ((((w.alloc (.cells #[a] ta)).alloc (.cells #[b] tb)).alloc (.cells #[c] tc)).alloc (.cells #[d] td)).cell? ⟨G + 1 + 1 + 1, 0, none⟩ = some d := by
  subst hG
  refine ⟨((((Below.refl _ w).alloc (Nat.le_refl _) _).alloc (by simp) _).alloc (by simp; omega) _).alloc (by simp; omega) _, by simp, ?_, ?_, ?_, ?_⟩
  · rw [World.cell?_alloc_lt _ _ _ (by simp; omega), World.cell?_alloc_lt _ _ _ (by simp; omega), World.cell?_alloc_lt _ _ _ (by simp)]; exact (World.cell?_alloc_at #[a] ta _ 0 (by simp)).trans rfl
  · rw [World.cell?_alloc_lt _ _ _ (by simp), World.cell?_alloc_lt _ _ _ (by simp)]; exact (World.cell?_alloc_at #[b] tb _ 0 (by simp)).trans rfl
  · rw [World.cell?_alloc_lt _ _ _ (by simp)]; exact (World.cell?_alloc_at #[c] tc _ 0 (by simp)).trans rfl
  · exact (World.cell?_alloc_at #[d] td _ 0 (by simp)).trans rfl

set_option maxRecDepth 1000000 in
set_option maxHeartbeats 4000000 in
theorem runs_any (T D F Sb Lb K n e : Nat) (st lab : Nat → Int) (w : World) (he : e ≤ 100) (hn : n ≤ 1024) (hK : K ≤ 2000) (hK0 : 0 < K) (hst0 : st 0 = 0) (hst : ∀ i, i < K → 0 ≤ st i) (hmono : ∀ a b, a < b → b < K → st a < st b) (hlab : ∀ i, i < n → 0 ≤ lab i ∧ lab i ≤ 100000)
    (t0 : w.cell? ⟨T, 0, none⟩ = some (.pointer (some ⟨D, 0, none⟩))) (t5 : w.cell? ⟨T, 5, none⟩ = some (.slice (some ⟨Sb, 0, none⟩) K K)) (t7 : w.cell? ⟨T, 17, none⟩ = some (.slice (some ⟨Lb, 0, none⟩) n n))
    (d0 : w.cell? ⟨D, 0, none⟩ = some (.slice (some ⟨F, 0, none⟩) (e + 1) (e + 1))) (d1 : ∀ i, 0 < i → i < 6 → w.cell? ⟨D, i, none⟩ = some (.slice none 0 0))
    (hs : ∀ i, i < K → w.cell? ⟨Sb, i, none⟩ = some (.int .i32 (st i))) (hl : ∀ i, i < n → w.cell? ⟨Lb, i, none⟩ = some (.int .i32 (lab i))) (hSb : Sb < w.heap.size) (hLb : Lb < w.heap.size) :
    Calls Yba.prog 6 #[.pointer (some ⟨T, 0, none⟩)] w fun en w' => ∃ v s, en = .returned v ∧ Start st K (e : Int) lab n s ∧ HasRuns w' w.heap.size v (runsTo st K (e : Int) lab n s n) ∧ Below w.heap.size w w' := by
  have hT : T < w.heap.size := World.block_lt_of_cell? w _ t0
  have hD : D < w.heap.size := World.block_lt_of_cell? w _ d0
  generalize hH : w.heap.size = H at hT hD hSb hLb ⊢
  have hmf := hmf
  have hfd : ∀ w : World, (Instr.field 80 (.agg #[.int .i32 0, .int .i32 (e : Int), .int .i32 (e : Int), .int .i32 (e : Int)]) 2).run Yba.prog w = .ok (.int .i32 (e : Int)) w := fun _ => by kernel_rfl
  have hb1 : Below H w (w.alloc (.cells #[.pointer (some ⟨T, 0, none⟩)] 38)) := (Below.refl H w).alloc (by omega) _
  have HR := hide (ranges_any D F e (w.alloc (.cells #[.pointer (some ⟨T, 0, none⟩)] 38)) he ((hb1.cell (p := ⟨D, 0, none⟩) hD).trans d0) (fun i h0 h1 => (hb1.cell (p := ⟨D, i, none⟩) hD).trans (d1 i h0 h1)))
  have HS := hide (And.intro hs hl)
  clear d0 d1 hs hl hb1
  go_enter Yba.func6, Yba.ntmps6
  go_wp2_with fail
  refine HR.out.mono ?_
  rintro en w2 ⟨rfl, hb2⟩
  have hb2' : Below (H + 1) (w.alloc (.cells #[.pointer (some ⟨T, 0, none⟩)] 38)) w2 := by rw [World.size_alloc, hH] at hb2; exact hb2
  have hw2 : Below H w w2 := ((Below.refl H w).alloc (by omega) _).trans (hb2'.mono (by omega))
  have kv : w2.cell? ⟨H, 0, none⟩ = some (.pointer (some ⟨T, 0, none⟩)) := by
    rw [hb2'.cell (p := ⟨H, 0, none⟩) (by show H < H + 1; omega)]
    rw [← hH]; simp
  have k5 := (hw2.cell (p := ⟨T, 5, none⟩) hT).trans t5
  have k7 := (hw2.cell (p := ⟨T, 17, none⟩) hT).trans t7
  have HB2 := hide hw2
  have hG : H < w2.heap.size := by have := hb2'.size; rw [World.size_alloc, hH] at this; omega
  have hTG : T < w2.heap.size := by omega
  clear hb2 hb2' hw2 HR t0 t5 t7
  generalize hG' : w2.heap.size = G at hG hTG
  go_wp2
  obtain ⟨f1, f2, f3, f4, f5, f6⟩ := four_new w2 G hG' (.int .i32 (e : Int)) (.slice (some ⟨Lb, 0, none⟩) n n) (.int .i64 (n : Int)) (.func (.func 11) #[] #[.pointer (some ⟨H, 0, none⟩)]) 21 25 3 84
  have hw6 := HB2.out.trans (f1.mono (by omega))
  have hE : Env _ (G + 4) (G + 1) (G + 1 + 1) G (G + 1 + 1 + 1) Lb H T Sb K n (e : Int) st lab :=
    ⟨f4, f5, f3, f6, fun i hi => (hw6.cell (p := ⟨Lb, i, none⟩) hLb).trans (HS.out.2 i hi), ⟨(f1.cell (p := ⟨H, 0, none⟩) hG).trans kv, (f1.cell (p := ⟨T, 5, none⟩) hTG).trans k5, fun i hi => (hw6.cell (p := ⟨Sb, i, none⟩) hSb).trans (HS.out.1 i hi)⟩, by omega⟩
  have hex : (0 : Int) ≤ (e : Int) ∧ (e : Int) ≤ 100 := by omega
  refine start_loop (G + 4) (G + 1) (G + 1 + 1) G (G + 1 + 1 + 1) Lb H T Sb K n (e : Int) st lab _ _ _ hn hK hmono hex hlab hE (by omega) (Below.refl _ _) ?_
  intro u29 u30 u31 u32 u33 u34 u35 u36 u37 u38 w7 s hS hb7
  have cn := (hE.below hb7).cn
  have HB7 := hide hb7
  have HE := hide hE
  have HW := hide hw6
  have HZ := hide f2
  clear hb7 hE f1 f2 f3 f4 f5 f6 hw6 HS HB2 kv k5 k7 hfd hmf
  go_wp2
  refine rounds_loop (G + 4) (G + 1) (G + 1 + 1) G (G + 1 + 1 + 1) Lb H T Sb K n (e : Int) st lab s _ _ _ hS hK0 hst0 hst hn hK hmono hex hlab HE.out (by have := HZ.out; omega) HB7.out ?_
  intro u9 u10 u11 u12 u13 u14 u40 u41 u42 u43 u44 u45 u46 u47 u48 u49 u50 u51 u52 u53 u54 u55 u56 u57 u58 u59 u60 u61 u62 u63 u64 u65 u66 u67 u68 u69 u70 u71 u72 u73 u74 u75 u76 u77 u78 u79 u80 u81 u82 u83 u84 u85 u86 u87 u88 u89 u90 u91 u92 u93 w8 hr hb8
  have hr' : HasRuns w8 H u9 (runsTo st K (e : Int) lab n s n) := World.ownsRow.mono hr (by omega)
  have hbw := HW.out.trans (hb8.mono (by omega))
  have R := hide (And.intro hr' hbw)
  obtain ⟨va, vc, rfl⟩ := hr'.len
  clear hr hr' hb8 hbw HE HW HZ HB7 hst hlab hmono
  go_wp2
  go_ret
  exact ⟨_, s, rfl, hS, R.out.1, R.out.2⟩

end Go.Proofs.Ybulkbfhw
