/- 'Rows.LawS2811CBoxCornerSaid', PROVED: the guide's own shell for this function round the walk at each dimension (YbulkbfeqB1w .. B4w) and the float facts (YbulkbfeqBoxPlain). -/
import Derived.Test.YbulkbfeqRows
import Derived.WalkKit
import Derived.ProofKit
import Derived.OpenShut
import Derived.ShutString
import Derived.ChangeOld
import Derived.Below
import Derived.Test.YbulkbfeqB1w
import Derived.Test.YbulkbfeqB2w
import Derived.Test.YbulkbfeqB3w
import Derived.Test.YbulkbfeqB4w
namespace Go.Proofs.Ybulkbfeq.lawS2811CBoxCorner
open Go.ChangeShapes Go.WideShapes Go.ChangeAt Go.RowKit
open Go.ChangeMaps (open_string shut_string)
attribute [local go_sem] run_store_float
set_option linter.unusedVariables false

theorem own : ownKnob Yba.prog.godebug = none := by kernel_rfl
theorem laidOut : laidOutB Yba.prog = true := by kernel_rfl

/-- WHAT THE WALK IS TOLD OF A SLICE OF INTEGERS THAT CAME IN: it is nil; or it leads to a row of 'cap' cells, the numbers 'zs' (the first 'len' are its elements, the rest its spare room), each fitting its kind. -/
def IsRow (k : IntKind) (w : World) (a : Option Addr) (len cap : Nat) (zs : List Int) : Prop :=
  (a = none ∧ len = 0 ∧ cap = 0 ∧ zs = []) ∨
  ∃ x, a = some x ∧ len ≤ cap ∧ cap ≤ maxLen ∧ zs.length = cap ∧ (∀ i, i < zs.length → w.cell? (x.add i) = some (.int k (zs.getD i 0))) ∧ ∀ n ∈ zs, (Lit.int k n).wf = true

theorem pick_of {w : World} {a : Option Addr} {len cap : Nat} {zs : List Int} (h : IsRow .i32 w a len cap zs) (D : Nat) : ∃ P, PickOk w w.heap.size D a len P ∧ ∀ i, i < D → Whole (P i) := by
  rcases h with ⟨rfl, rfl, rfl, rfl⟩ | ⟨x, rfl, hl, hm, hz, hc, hw⟩
  · refine ⟨fun _ => 0, .inl ⟨rfl, fun _ => rfl⟩, fun i _ => ⟨Fl.zero_ok.1, 0, Fl.zero_ok.2, by omega, by omega⟩⟩
  · by_cases h0 : len = 0
    · exact ⟨fun _ => 0, .inl ⟨h0, fun _ => rfl⟩, fun i _ => ⟨Fl.zero_ok.1, 0, Fl.zero_ok.2, by omega, by omega⟩⟩
    · obtain ⟨b, off, rfl, hb⟩ := ints_at hc (by omega)
      have hlt : ∀ i, i % len < zs.length := fun i => by have := Nat.mod_lt i (show 0 < len by omega); omega
      refine ⟨fun i => floatOfInt .f64 (zs.getD (i % len) 0), .inr ⟨by omega, by omega, b, off, rfl, World.block_lt_of_cell? w _ (hb 0 (by omega)), fun i hi => ⟨_, hb _ (hlt i), rfl⟩⟩, fun i hi => ?_⟩
      have hr := range_i32 hw (i % len)
      have e : zs.getD (i % len) 0 = zs[i % len]?.getD 0 := by simp [List.getD]
      rw [← e] at hr
      obtain ⟨n1, n2⟩ := Fl.int_ok (zs.getD (i % len) 0) (by omega) (by omega)
      exact ⟨n1, _, n2, by omega, by omega⟩
theorem sel_of {w : World} {a : Option Addr} {len cap : Nat} {zs : List Int} (h : IsRow .u8 w a len cap zs) (D : Nat) : ∃ C, SelOk w w.heap.size D a len C := by
  rcases h with ⟨rfl, rfl, rfl, rfl⟩ | ⟨x, rfl, hl, hm, hz, hc, hw⟩
  · exact ⟨fun r => r, .inl ⟨rfl, fun _ _ => rfl⟩⟩
  · by_cases h0 : len = 0
    · exact ⟨fun r => r, .inl ⟨h0, fun _ _ => rfl⟩⟩
    · obtain ⟨b, off, rfl, hb⟩ := ints_at hc (by omega)
      have hlt : ∀ i, i % len < zs.length := fun i => by have := Nat.mod_lt i (show 0 < len by omega); omega
      refine ⟨fun r => (zs.getD (r % len) 0).toNat % (2 * D), .inr ⟨by omega, by omega, b, off, rfl, World.block_lt_of_cell? w _ (hb 0 (by omega)), fun i hi => ⟨(zs.getD (i % len) 0).toNat, ?_, ?_, rfl⟩⟩⟩
      all_goals
        have hr := range_u8 hw (i % len)
        have e : zs.getD (i % len) 0 = zs[i % len]?.getD 0 := by simp [List.getD]
        rw [← e] at hr
      · rw [Int.toNat_of_nonneg hr.1]; exact hb _ (hlt i)
      · omega
theorem nums_of {Lo Hi : Nat → Nat} {D : Nat} (hl : ∀ i, i < D → Whole (Lo i)) (hh : ∀ i, i < D → Whole (Hi i)) : ∀ i, i < D → fne (Hi i) (Hi i) = false ∧ fne (fneg (Lo i)) (fneg (Lo i)) = false :=
  fun i hi => ⟨ne_num (hh i hi).1, ne_num (neg_num (hl i hi).1)⟩

/-! ### STEP 1: THE WALK: the Go text returns true, AND WRITES NOTHING THAT WAS THERE: 'Below w.heap.size w w'' (Derived/Below.lean: '.refl', '.alloc', '.drew', '.setCell' at a new block, '.trans'). Open each 'IsRow' by 'rcases' AHEAD of 'go_enter'; part every test ahead of the walk. -/
theorem walk (a0 : Int) (a1 : Int) (a2 : Option Addr) (len2 cap2 : Nat) (z2 : List Int) (a3 : Option Addr) (len3 cap3 : Nat) (z3 : List Int) (a4 : Option Addr) (len4 cap4 : Nat) (z4 : List Int) (a5 : Option Addr) (len5 cap5 : Nat) (z5 : List Int) (w : World) (w0 : (Lit.int .u8 a0).wf = true) (w1 : (Lit.int .u8 a1).wf = true) (w2 : IsRow .u8 w a2 len2 cap2 z2) (w3 : IsRow .i32 w a3 len3 cap3 z3) (w4 : IsRow .i32 w a4 len4 cap4 z4) (w5 : IsRow .i32 w a5 len5 cap5 z5) :
    Calls Yba.prog 3 #[.int .u8 a0, .int .u8 a1, .slice a2 len2 cap2, .slice a3 len3 cap3, .slice a4 len4 cap4, .slice a5 len5 cap5] w fun e w' => e = .returned (.bool true) ∧ Below w.heap.size w w' := by
  have hd := bounds_u8 w0
  have hm := bounds_u8 w1
  obtain ⟨mm, hmm⟩ : ∃ mm : Nat, a1 % 3 = (mm : Int) := ⟨(a1 % 3).toNat, by omega⟩
  by_cases h1 : a0 % 4 = 0
  · obtain ⟨C, hC⟩ := sel_of w2 1
    obtain ⟨Lo, hLo, nLo⟩ := pick_of w3 1
    obtain ⟨Hi, hHi, nHi⟩ := pick_of w4 1
    obtain ⟨Wf, hWf, nWf⟩ := pick_of w5 1
    exact B1.box_walk a0 a1 mm (mm * 1) C Lo Hi Wf a2 a3 a4 a5 len2 cap2 len3 cap3 len4 cap4 len5 cap5 w hd.1 hd.2 hm.1 hm.2 h1 hmm (by omega) hC hLo hHi hWf (box_plain 1 C Wf hC.lt nWf) (nums_of nLo nHi)
  by_cases h2 : a0 % 4 = 1
  · obtain ⟨C, hC⟩ := sel_of w2 2
    obtain ⟨Lo, hLo, nLo⟩ := pick_of w3 2
    obtain ⟨Hi, hHi, nHi⟩ := pick_of w4 2
    obtain ⟨Wf, hWf, nWf⟩ := pick_of w5 2
    exact B2.box_walk a0 a1 mm (mm * 2) C Lo Hi Wf a2 a3 a4 a5 len2 cap2 len3 cap3 len4 cap4 len5 cap5 w hd.1 hd.2 hm.1 hm.2 h2 hmm (by omega) hC hLo hHi hWf (box_plain 2 C Wf hC.lt nWf) (nums_of nLo nHi)
  by_cases h3 : a0 % 4 = 2
  · obtain ⟨C, hC⟩ := sel_of w2 3
    obtain ⟨Lo, hLo, nLo⟩ := pick_of w3 3
    obtain ⟨Hi, hHi, nHi⟩ := pick_of w4 3
    obtain ⟨Wf, hWf, nWf⟩ := pick_of w5 3
    exact B3.box_walk a0 a1 mm (mm * 3) C Lo Hi Wf a2 a3 a4 a5 len2 cap2 len3 cap3 len4 cap4 len5 cap5 w hd.1 hd.2 hm.1 hm.2 h3 hmm (by omega) hC hLo hHi hWf (box_plain 3 C Wf hC.lt nWf) (nums_of nLo nHi)
  by_cases h4 : a0 % 4 = 3
  · obtain ⟨C, hC⟩ := sel_of w2 4
    obtain ⟨Lo, hLo, nLo⟩ := pick_of w3 4
    obtain ⟨Hi, hHi, nHi⟩ := pick_of w4 4
    obtain ⟨Wf, hWf, nWf⟩ := pick_of w5 4
    exact B4.box_walk a0 a1 mm (mm * 4) C Lo Hi Wf a2 a3 a4 a5 len2 cap2 len3 cap3 len4 cap4 len5 cap5 w hd.1 hd.2 hm.1 hm.2 h4 hmm (by omega) hC hLo hHi hWf (box_plain 4 C Wf hC.lt nWf) (nums_of nLo nHi)
  omega

/-! ### THE ROW's STEP: WRITTEN OUT: LEAVE IT -/
set_option maxRecDepth 100000 in
theorem lifted (os : Os) (started : os.Started) (H : Type) (enc : TypeId × Value → H) :
    ReturnsInHanded {} Yba.checked os 3 .any (Rows.lawS2811CBoxCornerSpec.pre6 enc Yba.prog Yba.f3 Rows.lawS2811CBoxCornerRow.domain false) (Rows.lawS2811CBoxCornerSpec.post enc Yba.prog Yba.f3 false true false false) := by
  refine returnsInHanded_of_change (C := Yba.checked) own started (by kernel_rfl) Yba.func3
    (ChangeSpec.witness6 (enc := enc) (C := Yba.checked) false ⟨#[], #[.int .u8 0, .int .u8 0, .slice none 0 0, .slice none 0 0, .slice none 0 0, .slice none 0 0], []⟩ 8 (by kernel_rfl) (by kernel_rfl) (by kernel_rfl) (by kernel_rfl)) ?_
  intro W base args ds gs before hval0 hW hcnd _
  have hval : ∀ (j : Nat) t v, Yba.f3.params[j]? = some t → args[j]? = some v → Value.okWide Yba.prog W .any base t v := hval0
  have hW' := hW
  obtain ⟨p, q, hA0, hV, rfl, hfz, hnd⟩ := hW
  have hA : DataW.TrodAll enc Yba.prog W 0 (fun _ => true) true Yba.f3.params.toList args.toList ds p := hA0
  rw [Yba.params3] at hA hval
  obtain ⟨v0, vs0, d0, ds0, p0, q0, hargs, rfl, rfl, h0, r0⟩ := trodAll_cons hA
  obtain ⟨v1, vs1, d1, ds1, p1, q1, rfl, rfl, rfl, h1, r1⟩ := trodAll_cons r0
  obtain ⟨v2, vs2, d2, ds2, p2, q2, rfl, rfl, rfl, h2, r2⟩ := trodAll_cons r1
  obtain ⟨v3, vs3, d3, ds3, p3, q3, rfl, rfl, rfl, h3, r3⟩ := trodAll_cons r2
  obtain ⟨v4, vs4, d4, ds4, p4, q4, rfl, rfl, rfl, h4, r4⟩ := trodAll_cons r3
  obtain ⟨v5, vs5, d5, ds5, p5, q5, rfl, rfl, rfl, h5, r5⟩ := trodAll_cons r4
  obtain ⟨rfl, rfl, rfl⟩ := trodAll_nil r5
  obtain rfl : args = #[v0, v1, v2, v3, v4, v5] := by cases args; simp_all
  obtain ⟨rfl, rfl⟩ := trodVars_none hV
  obtain ⟨a0, rfl, rfl, rfl, w0⟩ := open_int Yba.underlying5 (hval 0 5 v0 rfl rfl) h0
  obtain ⟨a1, rfl, rfl, rfl, w1⟩ := open_int Yba.underlying5 (hval 1 5 v1 rfl rfl) h1
  obtain ⟨a2, len2, cap2, rfl⟩ := okWide_slice Yba.underlying22 (hval 2 22 v2 rfl rfl)
  have k2 := h2
  have lt2 : ∀ x ∈ p2, x.block < W.heap.size := by obtain ⟨m, hm⟩ := k2; exact DataW.trod_lt m _ _ _ hm
  obtain ⟨z2, w2⟩ : ∃ zs, IsRow .u8 W a2 len2 cap2 zs := by
    obtain ⟨fuel, hf⟩ := h2
    rcases open_ints Yba.underlying22 Yba.underlying5 (by kernel_rfl) hf with ⟨hcs, _⟩ | ⟨x, l, c, zs, hcs, _, hl, hm, hz, _, hcell, hwz⟩
    · simp [Value.cells] at hcs
      obtain ⟨rfl, rfl, rfl⟩ := hcs
      exact ⟨[], .inl ⟨rfl, rfl, rfl, rfl⟩⟩
    · simp [Value.cells] at hcs
      obtain ⟨rfl, rfl, rfl⟩ := hcs
      exact ⟨zs, .inr ⟨_, rfl, hl, hm, by simpa using hz, hcell, hwz⟩⟩
  obtain ⟨a3, len3, cap3, rfl⟩ := okWide_slice Yba.underlying23 (hval 3 23 v3 rfl rfl)
  have k3 := h3
  have lt3 : ∀ x ∈ p3, x.block < W.heap.size := by obtain ⟨m, hm⟩ := k3; exact DataW.trod_lt m _ _ _ hm
  obtain ⟨z3, w3⟩ : ∃ zs, IsRow .i32 W a3 len3 cap3 zs := by
    obtain ⟨fuel, hf⟩ := h3
    rcases open_ints Yba.underlying23 Yba.underlying21 (by kernel_rfl) hf with ⟨hcs, _⟩ | ⟨x, l, c, zs, hcs, _, hl, hm, hz, _, hcell, hwz⟩
    · simp [Value.cells] at hcs
      obtain ⟨rfl, rfl, rfl⟩ := hcs
      exact ⟨[], .inl ⟨rfl, rfl, rfl, rfl⟩⟩
    · simp [Value.cells] at hcs
      obtain ⟨rfl, rfl, rfl⟩ := hcs
      exact ⟨zs, .inr ⟨_, rfl, hl, hm, by simpa using hz, hcell, hwz⟩⟩
  obtain ⟨a4, len4, cap4, rfl⟩ := okWide_slice Yba.underlying23 (hval 4 23 v4 rfl rfl)
  have k4 := h4
  have lt4 : ∀ x ∈ p4, x.block < W.heap.size := by obtain ⟨m, hm⟩ := k4; exact DataW.trod_lt m _ _ _ hm
  obtain ⟨z4, w4⟩ : ∃ zs, IsRow .i32 W a4 len4 cap4 zs := by
    obtain ⟨fuel, hf⟩ := h4
    rcases open_ints Yba.underlying23 Yba.underlying21 (by kernel_rfl) hf with ⟨hcs, _⟩ | ⟨x, l, c, zs, hcs, _, hl, hm, hz, _, hcell, hwz⟩
    · simp [Value.cells] at hcs
      obtain ⟨rfl, rfl, rfl⟩ := hcs
      exact ⟨[], .inl ⟨rfl, rfl, rfl, rfl⟩⟩
    · simp [Value.cells] at hcs
      obtain ⟨rfl, rfl, rfl⟩ := hcs
      exact ⟨zs, .inr ⟨_, rfl, hl, hm, by simpa using hz, hcell, hwz⟩⟩
  obtain ⟨a5, len5, cap5, rfl⟩ := okWide_slice Yba.underlying23 (hval 5 23 v5 rfl rfl)
  have k5 := h5
  have lt5 : ∀ x ∈ p5, x.block < W.heap.size := by obtain ⟨m, hm⟩ := k5; exact DataW.trod_lt m _ _ _ hm
  obtain ⟨z5, w5⟩ : ∃ zs, IsRow .i32 W a5 len5 cap5 zs := by
    obtain ⟨fuel, hf⟩ := h5
    rcases open_ints Yba.underlying23 Yba.underlying21 (by kernel_rfl) hf with ⟨hcs, _⟩ | ⟨x, l, c, zs, hcs, _, hl, hm, hz, _, hcell, hwz⟩
    · simp [Value.cells] at hcs
      obtain ⟨rfl, rfl, rfl⟩ := hcs
      exact ⟨[], .inl ⟨rfl, rfl, rfl, rfl⟩⟩
    · simp [Value.cells] at hcs
      obtain ⟨rfl, rfl, rfl⟩ := hcs
      exact ⟨zs, .inr ⟨_, rfl, hl, hm, by simpa using hz, hcell, hwz⟩⟩
  clear hA0 hval0
  refine (walk a0 a1 a2 len2 cap2 z2 a3 len3 cap3 z3 a4 len4 cap4 z4 a5 len5 cap5 z5 W w0 w1 w2 w3 w4 w5).mono fun e W' ⟨he, bel⟩ => ?_
  subst he
  exact ⟨_, rfl, _, _, _, [], _, [], hW', trodAll_mk1 (shut_bool Yba.underlying4 _), (trodAll_cons_mk (shut_int Yba.underlying5 w0) (trodAll_cons_mk (shut_int Yba.underlying5 w1) (trodAll_cons_mk (Below.trod laidOut (by kernel_rfl) (of_decide_eq_true (by kernel_rfl)) k2 bel lt2) (trodAll_cons_mk (Below.trod laidOut (by kernel_rfl) (of_decide_eq_true (by kernel_rfl)) k3 bel lt3) (trodAll_cons_mk (Below.trod laidOut (by kernel_rfl) (of_decide_eq_true (by kernel_rfl)) k4 bel lt4) (trodAll_cons_mk (Below.trod laidOut (by kernel_rfl) (of_decide_eq_true (by kernel_rfl)) k5 bel lt5) trodAll_mk0)))))), rfl, bel.frame _, fun h => by cases h⟩

theorem over : Rows.lawS2811CBoxCornerRow.holds Yba.pinned (OpenSpec.ofChange Rows.lawS2811CBoxCornerSpec) :=
  OpenClaim.holds_of_wide 3 Yba.f3 rfl rfl rfl rfl rfl rfl rfl ⟨rfl, rfl, rfl, rfl, rfl⟩ rfl rfl rfl rfl rfl (by kernel_rfl) Yba.func3 (by kernel_rfl)
    (of_decide_eq_true (by kernel_rfl)) (by unfold Func.isWrapper; first | (rw [if_pos (by decide +kernel)]; kernel_rfl) | (rw [if_neg (by decide +kernel)]; exact ⟨rfl, rfl⟩))
    (fun os started H enc _ => lifted os started H enc)

/-- ████ THE STATEMENT ████ -/
theorem proved : Rows.LawS2811CBoxCornerSaid := over
#print axioms proved
end Go.Proofs.Ybulkbfeq.lawS2811CBoxCorner
