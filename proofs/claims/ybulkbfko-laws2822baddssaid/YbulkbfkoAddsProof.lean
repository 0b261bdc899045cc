/- 'Rows.LawS2822BAddsSaid', PROVED: the row's frame round the walk (YbulkbfkoAdds): an array of 286 by value and a slice of bytes. -/
import Derived.Test.YbulkbfkoRows
import Derived.WalkKit
import Derived.ProofKit
import Derived.OpenShut
import Derived.ShutString
import Derived.ChangeOld
import Derived.Below
import Derived.Test.YbulkbfkoAdds
namespace Go.Proofs.Ybulkbfko.lawS2822BAdds
open Go.ChangeShapes Go.WideShapes Go.ChangeAt Go.RowKit
open Go.ChangeMaps (open_string shut_string)
attribute [local go_sem] eqNil23
set_option linter.unusedVariables false

theorem own : ownKnob Yba.prog.godebug = none := by kernel_rfl
theorem laidOut : laidOutB Yba.prog = true := by kernel_rfl

/-- WHAT THE WALK IS TOLD OF A SLICE OF INTEGERS THAT CAME IN: it is nil; or it leads to a row of 'cap' cells, the numbers 'zs' (the first 'len' are its elements, the rest its spare room), each fitting its kind. -/
def IsRow (k : IntKind) (w : World) (a : Option Addr) (len cap : Nat) (zs : List Int) : Prop :=
  (a = none ∧ len = 0 ∧ cap = 0 ∧ zs = []) ∨
  ∃ x, a = some x ∧ len ≤ cap ∧ cap ≤ maxLen ∧ zs.length = cap ∧ (∀ i, i < zs.length → w.cell? (x.add i) = some (.int k (zs.getD i 0))) ∧ ∀ n ∈ zs, (Lit.int k n).wf = true

/-- The bytes of a slice that came in. -/
theorem bytes_of {w : World} {a : Option Addr} {len cap : Nat} {zs : List Int} (h : IsRow .u8 w a len cap zs) : ∃ x : Nat → Nat, (∀ i, x i < 256) ∧ Bytes w w.heap.size a len x ∧ ∀ i, (x i : Int) = zs.getD i 0 := by
  have hr : ∀ i, 0 ≤ zs.getD i 0 ∧ zs.getD i 0 ≤ 255 := by
    intro i
    have hw : ∀ n ∈ zs, (Lit.int .u8 n).wf = true := by
      rcases h with ⟨_, _, _, rfl⟩ | ⟨_, _, _, _, _, _, hw⟩
      · intro n hn; cases hn
      · exact hw
    have hr := range_u8 hw i
    have e : zs.getD i 0 = zs[i]?.getD 0 := by simp [List.getD]
    rw [← e] at hr
    exact hr
  refine ⟨fun i => (zs.getD i 0).toNat, fun i => by show (zs.getD i 0).toNat < 256; have := hr i; omega, fun h0 => ?_, fun i => Int.toNat_of_nonneg (hr i).1⟩
  rcases h with ⟨_, h1, _, _⟩ | ⟨x, rfl, hl, hm, hz, hc, hw⟩
  · omega
  · obtain ⟨b, off, rfl, hb⟩ := ints_at hc (by omega)
    refine ⟨b, off, rfl, World.block_lt_of_cell? w _ (hb 0 (by omega)), fun j hj => ?_⟩
    rw [Int.toNat_of_nonneg (hr j).1]
    exact hb j (by omega)

theorem src_of {w : World} {a : Option Addr} {len cap : Nat} {zs : List Int} (h : IsRow .u8 w a len cap zs) : Src w (.slice a len cap) (bs len fun i => zs.getD i 0) := by
  rcases h with ⟨rfl, rfl, rfl, rfl⟩ | ⟨x, rfl, hl, hm, hz, hc, hw⟩
  · exact .inl ⟨rfl, rfl⟩
  · refine .inr ⟨x, len, cap, rfl, bs_length _ _, fun j u hu => ?_⟩
    obtain ⟨hj, rfl⟩ := bs_get hu
    exact hc j (by omega)

theorem walk (cs : Array Value) (ci : Nat → Int) (a0 : Option Addr) (len0 cap0 : Nat) (z0 : List Int) (w : World) (hcs : IsArr cs ci) (hci : ∀ i, -9223372036854775808 ≤ ci i ∧ ci i ≤ 9223372036854775807) (w0 : IsRow .u8 w a0 len0 cap0 z0) :
    Calls Yba.prog 3 #[.agg cs, .slice a0 len0 cap0] w fun e w' => e = .returned (.bool true) ∧ Below w.heap.size w w' := by
  by_cases h : 65536 < len0
  · exact adds_big cs a0 len0 cap0 w h
  · obtain ⟨x, hx, hb, he⟩ := bytes_of w0
    have hs := src_of w0
    have hfun : (fun i => z0.getD i 0) = fun i => (x i : Int) := funext fun i => (he i).symm
    rw [hfun] at hs
    exact adds_run cs ci a0 len0 cap0 x w hcs hci (by omega) hx hb hs

theorem cells22 : Yba.prog.cellsOf 22 = 286 := by kernel_rfl
theorem cells3 : Yba.prog.cellsOf 3 = 1 := by kernel_rfl

/-! ### THE ROW's STEP: WRITTEN OUT: LEAVE IT -/
set_option maxRecDepth 100000 in
theorem lifted (os : Os) (started : os.Started) (H : Type) (enc : TypeId × Value → H) :
    ReturnsInHanded {} Yba.checked os 3 .any (Rows.lawS2822BAddsSpec.pre6 enc Yba.prog Yba.f3 Rows.lawS2822BAddsRow.domain false) (Rows.lawS2822BAddsSpec.post enc Yba.prog Yba.f3 false true false false) := by
  refine returnsInHanded_of_change (C := Yba.checked) own started (by kernel_rfl) Yba.func3
    (ChangeSpec.witness6 (enc := enc) (C := Yba.checked) false ⟨#[], #[.agg (Array.replicate 286 (.int .i64 0)), .slice none 0 0], []⟩ 8 (by kernel_rfl) (by kernel_rfl) (by kernel_rfl) (by kernel_rfl)) ?_
  intro W base args ds gs before hval0 hW hcnd _
  have hval : ∀ (j : Nat) t v, Yba.f3.params[j]? = some t → args[j]? = some v → Value.okWide Yba.prog W .any base t v := hval0
  have hW' := hW
  obtain ⟨p, q, hA0, hV, rfl, hfz, hnd⟩ := hW
  have hA : DataW.TrodAll enc Yba.prog W 0 (fun _ => true) true Yba.f3.params.toList args.toList ds p := hA0
  rw [Yba.params3] at hA hval
  obtain ⟨u0, us0, e0, es0, l0, m0, hargs, rfl, rfl, g0, r⟩ := trodAll_cons hA
  obtain ⟨v0, vs0, d0, ds0, p0, q0, rfl, rfl, rfl, h0, r0⟩ := trodAll_cons r
  obtain ⟨rfl, rfl, rfl⟩ := trodAll_nil r0
  obtain rfl : args = #[u0, v0] := by cases args; simp_all
  obtain ⟨rfl, rfl⟩ := trodVars_none hV
  obtain ⟨cs, rfl, hsz, _⟩ : ∃ cs, u0 = .agg cs ∧ cs.size = Yba.prog.cellsOf 22 ∧ Row.okWide Yba.prog W .any base 22 cs := by
    have := hval 0 22 u0 rfl rfl
    simpa [Value.okWide, Yba.underlying22] using this
  rw [cells22] at hsz
  have kA := g0
  have ltA : ∀ x ∈ l0, x.block < W.heap.size := by obtain ⟨m, hm⟩ := kA; exact DataW.trod_lt m _ _ _ hm
  have hcell : ∀ i, i < 286 → ∃ z, cs[i]? = some (.int .i64 z) ∧ (Lit.int .i64 z).wf = true := by
    intro i hi
    obtain ⟨fuel, hf⟩ := g0
    obtain ⟨xs, m, _, _, _, hlen, hat⟩ := DataW.trod_array Yba.underlying22 hf
    have h1 := hat i hi
    rw [cells3, Nat.mul_one, List.getElem?_eq_getElem (by omega)] at h1
    obtain ⟨z, e, _, hw⟩ := DataW.trod_int Yba.underlying3 h1
    refine ⟨z, ?_, hw⟩
    have e1 : List.take 1 (List.drop i cs.toList) = [Value.int .i64 z] := e
    have e2 : (List.take 1 (List.drop i cs.toList))[0]? = some (Value.int .i64 z) := by rw [e1]; rfl
    rw [List.getElem?_take_of_lt (by omega), List.getElem?_drop, Nat.add_zero] at e2
    simpa using e2
  obtain ⟨ci, hcs, hci⟩ : ∃ ci, IsArr cs ci ∧ ∀ i, -9223372036854775808 ≤ ci i ∧ ci i ≤ 9223372036854775807 := by
    refine ⟨fun i => intOf (cs[i]?.getD (.int .i64 0)), ⟨hsz, fun i hi => ?_⟩, fun i => ?_⟩
    · obtain ⟨z, hz, _⟩ := hcell i hi
      show cs[i]? = some (.int .i64 (intOf (cs[i]?.getD (.int .i64 0))))
      rw [hz]
      rfl
    · by_cases hi : i < 286
      · obtain ⟨z, hz, hw⟩ := hcell i hi
        show -9223372036854775808 ≤ intOf (cs[i]?.getD (.int .i64 0)) ∧ intOf (cs[i]?.getD (.int .i64 0)) ≤ 9223372036854775807
        rw [hz]
        show -9223372036854775808 ≤ z ∧ z ≤ 9223372036854775807
        simp [Lit.wf, IntKind.min, IntKind.max, IntKind.signed, IntKind.bits] at hw
        omega
      · show -9223372036854775808 ≤ intOf (cs[i]?.getD (.int .i64 0)) ∧ intOf (cs[i]?.getD (.int .i64 0)) ≤ 9223372036854775807
        rw [Array.getElem?_eq_none (by omega)]
        show (-9223372036854775808 : Int) ≤ 0 ∧ (0 : Int) ≤ 9223372036854775807
        omega
  obtain ⟨a0, len0, cap0, rfl⟩ := okWide_slice Yba.underlying23 (hval 1 23 v0 rfl rfl)
  have k0 := h0
  have lt0 : ∀ x ∈ p0, x.block < W.heap.size := by obtain ⟨m, hm⟩ := k0; exact DataW.trod_lt m _ _ _ hm
  obtain ⟨z0, w0⟩ : ∃ zs, IsRow .u8 W a0 len0 cap0 zs := by
    obtain ⟨fuel, hf⟩ := h0
    rcases open_ints Yba.underlying23 Yba.underlying5 (by kernel_rfl) hf with ⟨hcs, _⟩ | ⟨x, l, c, zs, hcs, _, hl, hm, hz, _, hcell, hwz⟩
    · simp [Value.cells] at hcs
      obtain ⟨rfl, rfl, rfl⟩ := hcs
      exact ⟨[], .inl ⟨rfl, rfl, rfl, rfl⟩⟩
    · simp [Value.cells] at hcs
      obtain ⟨rfl, rfl, rfl⟩ := hcs
      exact ⟨zs, .inr ⟨_, rfl, hl, hm, by simpa using hz, hcell, hwz⟩⟩
  clear hA0 hval0
  refine (walk cs ci a0 len0 cap0 z0 W hcs hci w0).mono fun e W' ⟨he, bel⟩ => ?_
  subst he
  exact ⟨_, rfl, _, _, _, [], _, [], hW', trodAll_mk1 (shut_bool Yba.underlying4 _), (trodAll_cons_mk (Below.trod laidOut (by kernel_rfl) (of_decide_eq_true (by kernel_rfl)) kA bel ltA) (trodAll_cons_mk (Below.trod laidOut (by kernel_rfl) (of_decide_eq_true (by kernel_rfl)) k0 bel lt0) trodAll_mk0)), rfl, bel.frame _, fun h => by cases h⟩

theorem over : Rows.lawS2822BAddsRow.holds Yba.pinned (OpenSpec.ofChange Rows.lawS2822BAddsSpec) :=
  OpenClaim.holds_of_wide 3 Yba.f3 rfl rfl rfl rfl rfl rfl rfl ⟨rfl, rfl, rfl, rfl, rfl⟩ rfl rfl rfl rfl rfl (by kernel_rfl) Yba.func3 (by kernel_rfl)
    (of_decide_eq_true (by kernel_rfl)) (by unfold Func.isWrapper; first | (rw [if_pos (by decide +kernel)]; kernel_rfl) | (rw [if_neg (by decide +kernel)]; exact ⟨rfl, rfl⟩))
    (fun os started H enc _ => lifted os started H enc)

/-- ████ THE STATEMENT ████ -/
theorem proved : Rows.LawS2822BAddsSaid := over
#print axioms proved
end Go.Proofs.Ybulkbfko.lawS2822BAdds
