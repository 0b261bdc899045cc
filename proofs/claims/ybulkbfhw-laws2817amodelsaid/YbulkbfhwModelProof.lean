/- 'Rows.LawS2817AModelSaid', PROVED: the guide's own shell for this function round the walk (YbulkbfhwLaw). -/
import Derived.Test.YbulkbfhwRows
import Derived.WalkKit
import Derived.ProofKit
import Derived.OpenShut
import Derived.ShutString
import Derived.ChangeOld
import Derived.Below
import Derived.Test.YbulkbfhwLaw
namespace Go.Proofs.Ybulkbfhw.lawS2817AModel
open Go.ChangeShapes Go.WideShapes Go.ChangeAt Go.RowKit
open Go.ChangeMaps (open_string shut_string)
attribute [local go_sem] run_store_func
set_option linter.unusedVariables false

theorem own : ownKnob Yba.prog.godebug = none := by kernel_rfl
theorem laidOut : laidOutB Yba.prog = true := by kernel_rfl

/-- WHAT THE WALK IS TOLD OF A SLICE OF INTEGERS THAT CAME IN: it is nil; or it leads to a row of 'cap' cells, the numbers 'zs' (the first 'len' are its elements, the rest its spare room), each fitting its kind. -/
def IsRow (k : IntKind) (w : World) (a : Option Addr) (len cap : Nat) (zs : List Int) : Prop :=
  (a = none ∧ len = 0 ∧ cap = 0 ∧ zs = []) ∨
  ∃ x, a = some x ∧ len ≤ cap ∧ cap ≤ maxLen ∧ zs.length = cap ∧ (∀ i, i < zs.length → w.cell? (x.add i) = some (.int k (zs.getD i 0))) ∧ ∀ n ∈ zs, (Lit.int k n).wf = true

theorem cnt_of {w : World} {a : Option Addr} {len cap : Nat} {zs : List Int} (h : IsRow .u8 w a len cap zs) : (len = 0 ∧ ∃ c, CntOk w w.heap.size a len 1 c) ∨ (0 < len ∧ ∃ c, CntOk w w.heap.size a len len c) := by
  rcases Nat.eq_zero_or_pos len with h0 | h0
  · exact .inl ⟨h0, fun _ => 0, fun _ => Nat.zero_le 3, .inl ⟨h0, rfl, rfl⟩⟩
  · rcases h with ⟨_, h1, _, _⟩ | ⟨x, rfl, hl, hm, hz, hc, hw⟩
    · omega
    · obtain ⟨b, off, rfl, hb⟩ := ints_at hc (by omega)
      refine .inr ⟨h0, fun k => (zs.getD k 0).toNat % 4, fun k => Nat.le_of_lt_succ (Nat.mod_lt _ (by omega)), .inr ⟨h0, rfl, b, off, rfl, World.block_lt_of_cell? w _ (hb 0 (by omega)), fun k hk => ⟨(zs.getD k 0).toNat, ?_, ?_, rfl⟩⟩⟩
      all_goals
        have hr := range_u8 hw k
        have e : zs.getD k 0 = zs[k]?.getD 0 := by simp [List.getD]
        rw [← e] at hr
      · rw [Int.toNat_of_nonneg hr.1]; exact hb _ (by omega)
      · omega
theorem raw_of {w : World} {a : Option Addr} {len cap : Nat} {zs : List Int} (h : IsRow .u16 w a len cap zs) (m : Nat) (h0 : 0 < m) (h1 : m ≤ 100000) : ∃ lab, RawOk w w.heap.size a len m lab ∧ ∀ i, i < len → 0 ≤ lab i ∧ lab i ≤ 100000 := by
  rcases Nat.eq_zero_or_pos len with g0 | g0
  · exact ⟨fun _ => 0, .inl g0, fun i hi => by omega⟩
  · rcases h with ⟨_, h1, _, _⟩ | ⟨x, rfl, hl, hm, hz, hc, hw⟩
    · omega
    · obtain ⟨b, off, rfl, hb⟩ := ints_at hc (by omega)
      refine ⟨fun k => ((zs.getD k 0).toNat : Int) % (m : Int), .inr ⟨b, off, rfl, World.block_lt_of_cell? w _ (hb 0 (by omega)), fun k hk => ⟨(zs.getD k 0).toNat, ?_, ?_, rfl⟩⟩, fun i hi => ?_⟩
      · have hr := range_u16 hw k
        have e : zs.getD k 0 = zs[k]?.getD 0 := by simp [List.getD]
        rw [← e] at hr
        rw [Int.toNat_of_nonneg hr.1]; exact hb _ (by omega)
      · have hr := range_u16 hw k
        have e : zs.getD k 0 = zs[k]?.getD 0 := by simp [List.getD]
        rw [← e] at hr
        omega
      · have q1 : ((zs.getD i 0).toNat : Int) % (m : Int) < (m : Int) := Int.emod_lt_of_pos _ (by omega)
        have q2 : (0 : Int) ≤ ((zs.getD i 0).toNat : Int) % (m : Int) := Int.emod_nonneg _ (by omega)
        exact ⟨q2, Int.le_of_lt (Int.lt_of_lt_of_le q1 (by omega))⟩
set_option maxRecDepth 1000000 in
set_option maxHeartbeats 1000000 in
theorem big1 (a0 : Int) (ca ra : Option Addr) (cl cc n rc : Nat) (w : World) (h : 1024 < cl) : Calls Yba.prog 3 #[.int .u8 a0, .slice ca cl cc, .slice ra n rc] w fun e w' => e = .returned (.bool true) ∧ Below w.heap.size w w' := by
  have hd : decide ((1024 : Int) < (cl : Int)) = true := by simp; omega
  go_enter Yba.func3, Yba.ntmps3
  go_wp2
  go_ret
  exact ⟨rfl, Below.refl _ _⟩
set_option maxRecDepth 1000000 in
set_option maxHeartbeats 1000000 in
theorem big2 (a0 : Int) (ca ra : Option Addr) (cl cc n rc : Nat) (w : World) (h1 : cl ≤ 1024) (h : 1024 < n) : Calls Yba.prog 3 #[.int .u8 a0, .slice ca cl cc, .slice ra n rc] w fun e w' => e = .returned (.bool true) ∧ Below w.heap.size w w' := by
  have hd : decide ((1024 : Int) < (cl : Int)) = false := by simp; omega
  have hd2 : decide ((1024 : Int) < (n : Int)) = true := by simp; omega
  go_enter Yba.func3, Yba.ntmps3
  go_wp2
  go_ret
  exact ⟨rfl, Below.refl _ _⟩

/-! ### STEP 1: THE WALK: the Go text returns true, AND WRITES NOTHING THAT WAS THERE: 'Below w.heap.size w w'' (Derived/Below.lean: '.refl', '.alloc', '.drew', '.setCell' at a new block, '.trans'). Open each 'IsRow' by 'rcases' AHEAD of 'go_enter'; part every test ahead of the walk. -/
theorem walk (a0 : Int) (a1 : Option Addr) (len1 cap1 : Nat) (z1 : List Int) (a2 : Option Addr) (len2 cap2 : Nat) (z2 : List Int) (w : World) (w0 : (Lit.int .u8 a0).wf = true) (w1 : IsRow .u8 w a1 len1 cap1 z1) (w2 : IsRow .u16 w a2 len2 cap2 z2) :
    Calls Yba.prog 3 #[.int .u8 a0, .slice a1 len1 cap1, .slice a2 len2 cap2] w fun e w' => e = .returned (.bool true) ∧ Below w.heap.size w w' := by
  have hd := bounds_u8 w0
  obtain ⟨e, he⟩ : ∃ e : Nat, a0 % 16 = (e : Int) := ⟨(a0 % 16).toNat, by omega⟩
  by_cases h1 : 1024 < len1
  · exact big1 a0 a1 a2 len1 cap1 len2 cap2 w h1
  by_cases h2 : 1024 < len2
  · exact big2 a0 a1 a2 len1 cap1 len2 cap2 w (by omega) h2
  rcases cnt_of w1 with ⟨h0, c, hc⟩ | ⟨h0, c, hc⟩
  · have hp := stF_mono c 0 1 (by omega)
    have hl := stF_le c hc.1 1
    have hz : stF c 0 = 0 := rfl
    obtain ⟨lab, hr, hb⟩ := raw_of w2 (e + (stF c 1).toNat) (by omega) (by omega)
    exact law_zero a0 e a1 a2 len1 cap1 len2 cap2 c lab w hd.1 hd.2 he h0 (by omega) hc hr hb
  · have hp := stF_mono c 0 len1 (by omega)
    have hl := stF_le c hc.1 len1
    have hz : stF c 0 = 0 := rfl
    obtain ⟨lab, hr, hb⟩ := raw_of w2 (e + (stF c len1).toNat) (by omega) (by omega)
    exact law_pos a0 e a1 a2 len1 cap1 len2 cap2 c lab w hd.1 hd.2 he h0 (by omega) (by omega) hc hr hb

/-! ### THE ROW's STEP: WRITTEN OUT: LEAVE IT -/
set_option maxRecDepth 100000 in
theorem lifted (os : Os) (started : os.Started) (H : Type) (enc : TypeId × Value → H) :
    ReturnsInHanded {} Yba.checked os 3 .any (Rows.lawS2817AModelSpec.pre6 enc Yba.prog Yba.f3 Rows.lawS2817AModelRow.domain false) (Rows.lawS2817AModelSpec.post enc Yba.prog Yba.f3 false true false false) := by
  refine returnsInHanded_of_change (C := Yba.checked) own started (by kernel_rfl) Yba.func3
    (ChangeSpec.witness6 (enc := enc) (C := Yba.checked) false ⟨#[], #[.int .u8 0, .slice none 0 0, .slice none 0 0], []⟩ 8 (by kernel_rfl) (by kernel_rfl) (by kernel_rfl) (by kernel_rfl)) ?_
  intro W base args ds gs before hval0 hW hcnd _
  have hval : ∀ (j : Nat) t v, Yba.f3.params[j]? = some t → args[j]? = some v → Value.okWide Yba.prog W .any base t v := hval0
  have hW' := hW
  obtain ⟨p, q, hA0, hV, rfl, hfz, hnd⟩ := hW
  have hA : DataW.TrodAll enc Yba.prog W 0 (fun _ => true) true Yba.f3.params.toList args.toList ds p := hA0
  rw [Yba.params3] at hA hval
  obtain ⟨v0, vs0, d0, ds0, p0, q0, hargs, rfl, rfl, h0, r0⟩ := trodAll_cons hA
  obtain ⟨v1, vs1, d1, ds1, p1, q1, rfl, rfl, rfl, h1, r1⟩ := trodAll_cons r0
  obtain ⟨v2, vs2, d2, ds2, p2, q2, rfl, rfl, rfl, h2, r2⟩ := trodAll_cons r1
  obtain ⟨rfl, rfl, rfl⟩ := trodAll_nil r2
  obtain rfl : args = #[v0, v1, v2] := by cases args; simp_all
  obtain ⟨rfl, rfl⟩ := trodVars_none hV
  obtain ⟨a0, rfl, rfl, rfl, w0⟩ := open_int Yba.underlying5 (hval 0 5 v0 rfl rfl) h0
  obtain ⟨a1, len1, cap1, rfl⟩ := okWide_slice Yba.underlying22 (hval 1 22 v1 rfl rfl)
  have k1 := h1
  have lt1 : ∀ x ∈ p1, x.block < W.heap.size := by obtain ⟨m, hm⟩ := k1; exact DataW.trod_lt m _ _ _ hm
  obtain ⟨z1, w1⟩ : ∃ zs, IsRow .u8 W a1 len1 cap1 zs := by
    obtain ⟨fuel, hf⟩ := h1
    rcases open_ints Yba.underlying22 Yba.underlying5 (by kernel_rfl) hf with ⟨hcs, _⟩ | ⟨x, l, c, zs, hcs, _, hl, hm, hz, _, hcell, hwz⟩
    · simp [Value.cells] at hcs
      obtain ⟨rfl, rfl, rfl⟩ := hcs
      exact ⟨[], .inl ⟨rfl, rfl, rfl, rfl⟩⟩
    · simp [Value.cells] at hcs
      obtain ⟨rfl, rfl, rfl⟩ := hcs
      exact ⟨zs, .inr ⟨_, rfl, hl, hm, by simpa using hz, hcell, hwz⟩⟩
  obtain ⟨a2, len2, cap2, rfl⟩ := okWide_slice Yba.underlying23 (hval 2 23 v2 rfl rfl)
  have k2 := h2
  have lt2 : ∀ x ∈ p2, x.block < W.heap.size := by obtain ⟨m, hm⟩ := k2; exact DataW.trod_lt m _ _ _ hm
  obtain ⟨z2, w2⟩ : ∃ zs, IsRow .u16 W a2 len2 cap2 zs := by
    obtain ⟨fuel, hf⟩ := h2
    rcases open_ints Yba.underlying23 Yba.underlying37 (by kernel_rfl) hf with ⟨hcs, _⟩ | ⟨x, l, c, zs, hcs, _, hl, hm, hz, _, hcell, hwz⟩
    · simp [Value.cells] at hcs
      obtain ⟨rfl, rfl, rfl⟩ := hcs
      exact ⟨[], .inl ⟨rfl, rfl, rfl, rfl⟩⟩
    · simp [Value.cells] at hcs
      obtain ⟨rfl, rfl, rfl⟩ := hcs
      exact ⟨zs, .inr ⟨_, rfl, hl, hm, by simpa using hz, hcell, hwz⟩⟩
  clear hA0 hval0
  refine (walk a0 a1 len1 cap1 z1 a2 len2 cap2 z2 W w0 w1 w2).mono fun e W' ⟨he, bel⟩ => ?_
  subst he
  exact ⟨_, rfl, _, _, _, [], _, [], hW', trodAll_mk1 (shut_bool Yba.underlying4 _), (trodAll_cons_mk (shut_int Yba.underlying5 w0) (trodAll_cons_mk (Below.trod laidOut (by kernel_rfl) (of_decide_eq_true (by kernel_rfl)) k1 bel lt1) (trodAll_cons_mk (Below.trod laidOut (by kernel_rfl) (of_decide_eq_true (by kernel_rfl)) k2 bel lt2) trodAll_mk0))), rfl, bel.frame _, fun h => by cases h⟩

theorem over : Rows.lawS2817AModelRow.holds Yba.pinned (OpenSpec.ofChange Rows.lawS2817AModelSpec) :=
  OpenClaim.holds_of_wide 3 Yba.f3 rfl rfl rfl rfl rfl rfl rfl ⟨rfl, rfl, rfl, rfl, rfl⟩ rfl rfl rfl rfl rfl (by kernel_rfl) Yba.func3 (by kernel_rfl)
    (of_decide_eq_true (by kernel_rfl)) (by unfold Func.isWrapper; first | (rw [if_pos (by decide +kernel)]; kernel_rfl) | (rw [if_neg (by decide +kernel)]; exact ⟨rfl, rfl⟩))
    (fun os started H enc _ => lifted os started H enc)

/-- ████ THE STATEMENT ████ -/
theorem proved : Rows.LawS2817AModelSaid := over
#print axioms proved
end Go.Proofs.Ybulkbfhw.lawS2817AModel
