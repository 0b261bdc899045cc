/- 'Rows.LawS2811CTwoRowsSaid', PROVED: the row's frame round the walk (YbulkbfeqTwo) and the float facts (YbulkbfeqPlainTwo). After the guide's own way (Derived/Test/IdRangearrayProofs.lean: an array of four by value; howto/shells for the rest). -/
import Derived.Test.YbulkbfeqRows
import Derived.Test.YbulkbfeqPlainTwo
import Derived.WalkKit
import Derived.ProofKit
import Derived.OpenShut
import Derived.ShutString
import Derived.ChangeOld
import Derived.Below
import Derived.Laws.IdiomArrays
namespace Go.Proofs.Ybulkbfeq.lawS2811CTwoRows
open Go.ChangeShapes Go.WideShapes Go.ChangeAt Go.RowKit
attribute [local go_sem] run_store_float
set_option linter.unusedVariables false

theorem own : ownKnob Yba.prog.godebug = none := by kernel_rfl
theorem laidOut : laidOutB Yba.prog = true := by kernel_rfl
theorem cells34 : Yba.prog.cellsOf 34 = 1 := by kernel_rfl
theorem cells35 : Yba.prog.cellsOf 35 = 4 := by kernel_rfl

theorem list4 {α : Type} (l : List α) (h : (⟨l⟩ : Array α).size = 4) : ∃ a b c d, l = [a, b, c, d] := by
  match l, h with
  | [a, b, c, d], _ => exact ⟨a, b, c, d, rfl⟩

theorem small_rem (E : Nat → Int) (hE : ∀ i, -128 ≤ E i ∧ E i ≤ 127) : Fl.SmallQ (Law2.qF E) := by
  intro i hi
  have hb : -8 ≤ (E i).tmod 9 ∧ (E i).tmod 9 ≤ 8 := by
    have h1 := Int.tmod_lt_of_pos (E i) (show (0 : Int) < 9 by omega)
    have h2 := Int.lt_tmod_of_pos (E i) (show (0 : Int) < 9 by omega)
    omega
  obtain ⟨a, b⟩ := Fl.int_ok ((E i).tmod 9) (by omega) (by omega)
  have e : Law2.qF E i = floatOfInt .f64 ((E i).tmod 9) := by unfold Law2.qF; rw [if_pos hi]
  rw [e, b]
  refine ⟨a, ?_, _, rfl⟩
  have h8 : ((8 : Int) : Rat) = 8 := rfl
  unfold Fl.bd
  rw [← h8, ← Rat.intCast_neg]
  exact ⟨Rat.intCast_le_intCast.2 (by omega), Rat.intCast_le_intCast.2 (by omega)⟩

/-- The walk, for every four int8 and both answers of 'swap'. -/
theorem walk (x0 x1 x2 x3 : Int) (s : Bool) (w : World) (w0 : (Lit.int .i8 x0).wf = true) (w1 : (Lit.int .i8 x1).wf = true) (w2 : (Lit.int .i8 x2).wf = true) (w3 : (Lit.int .i8 x3).wf = true) :
    Calls Yba.prog 4 #[.agg #[.int .i8 x0, .int .i8 x1, .int .i8 x2, .int .i8 x3], .bool s] w fun e w' => e = .returned (.bool true) ∧ Below w.heap.size w w' := by
  have bnd : ∀ x : Int, (Lit.int .i8 x).wf = true → -128 ≤ x ∧ x ≤ 127 := by
    intro x hx
    simpa [Lit.wf, IntKind.min, IntKind.max, IntKind.signed, IntKind.bits] using hx
  have hE : ∀ i : Nat, -128 ≤ (fun i : Nat => match i with | 0 => x0 | 1 => x1 | 2 => x2 | 3 => x3 | _ => 0) i ∧ (fun i : Nat => match i with | 0 => x0 | 1 => x1 | 2 => x2 | 3 => x3 | _ => 0) i ≤ 127 := by
    intro i
    match i with
    | 0 => exact bnd x0 w0
    | 1 => exact bnd x1 w1
    | 2 => exact bnd x2 w2
    | 3 => exact bnd x3 w3
    | _ + 4 => exact ⟨by show (-128 : Int) ≤ 0; omega, by show (0 : Int) ≤ 127; omega⟩
  have hq := small_rem _ hE
  cases s with
  | false => exact Law2.two_false _ hE w (Fl.plain_two _ _ (fun r hr => by simp [Law2.sw]; omega) hq)
  | true => exact Law2.two_true _ hE w (Fl.plain_two _ _ (fun r hr => by simp [Law2.sw]; omega) hq)

set_option maxHeartbeats 400000 in
set_option maxRecDepth 100000 in
theorem lifted (os : Os) (started : os.Started) (H : Type) (enc : TypeId × Value → H) :
    ReturnsInHanded {} Yba.checked os 4 .any (Rows.lawS2811CTwoRowsSpec.pre6 enc Yba.prog Yba.f4 Rows.lawS2811CTwoRowsRow.domain false) (Rows.lawS2811CTwoRowsSpec.post enc Yba.prog Yba.f4 false true false false) := by
  refine returnsInHanded_of_change (C := Yba.checked) own started (by kernel_rfl) Yba.func4
    (ChangeSpec.witness6 (enc := enc) (C := Yba.checked) false ⟨#[], #[.agg #[.int .i8 0, .int .i8 0, .int .i8 0, .int .i8 0], .bool false], []⟩ 8 (by kernel_rfl) (by kernel_rfl) (by kernel_rfl) (by kernel_rfl)) ?_
  intro W base args ds gs before hval0 hW hcnd _
  have hval : ∀ (j : Nat) t v, Yba.f4.params[j]? = some t → args[j]? = some v → Value.okWide Yba.prog W .any base t v := hval0
  have hW' := hW
  obtain ⟨p, q, hA0, hV, rfl, hfz, hnd⟩ := hW
  have hA : DataW.TrodAll enc Yba.prog W 0 (fun _ => true) true Yba.f4.params.toList args.toList ds p := hA0
  rw [Yba.params4] at hA hval
  obtain ⟨v0, v1, d0, d1, p0, p1, rfl, rfl, rfl, h0, h1⟩ := trodAll_two hA
  obtain ⟨rfl, rfl⟩ := trodVars_none hV
  obtain ⟨cs, rfl, hsz, _⟩ : ∃ cs, v0 = .agg cs ∧ cs.size = Yba.prog.cellsOf 35 ∧ Row.okWide Yba.prog W .any base 35 cs := by
    have := hval 0 35 v0 rfl rfl
    simpa [Value.okWide, Yba.underlying35] using this
  rw [cells35] at hsz
  obtain ⟨l⟩ := cs
  obtain ⟨c0, c1, c2, c3, rfl⟩ := list4 l hsz
  obtain ⟨s, rfl, rfl, rfl⟩ := open_bool Yba.underlying4 (hval 1 4 v1 rfl rfl) h1
  have k0 := h0
  have lt0 : ∀ x ∈ p0, x.block < W.heap.size := by obtain ⟨m, hm⟩ := k0; exact DataW.trod_lt m _ _ _ hm
  obtain ⟨fuel, hf⟩ := h0
  obtain ⟨y0, y1, y2, y3, m, hx, hy0, hy1, hy2, hy3⟩ := trod_array4 Yba.underlying35 cells34 hf
  obtain ⟨x0, e0, rfl, w0⟩ := DataW.trod_int Yba.underlying34 hy0
  obtain ⟨x1, e1, rfl, w1⟩ := DataW.trod_int Yba.underlying34 hy1
  obtain ⟨x2, e2, rfl, w2⟩ := DataW.trod_int Yba.underlying34 hy2
  obtain ⟨x3, e3, rfl, w3⟩ := DataW.trod_int Yba.underlying34 hy3
  simp at e0 e1 e2 e3
  subst e0 e1 e2 e3
  clear hA0 hval0
  refine (walk x0 x1 x2 x3 s W w0 w1 w2 w3).mono fun e W' ⟨he, bel⟩ => ?_
  subst he
  exact ⟨_, rfl, _, _, _, [], _, [], hW', trodAll_mk1 (shut_bool Yba.underlying4 _), (trodAll_cons_mk (Below.trod laidOut (by kernel_rfl) (of_decide_eq_true (by kernel_rfl)) k0 bel lt0) (trodAll_cons_mk (shut_bool Yba.underlying4 _) trodAll_mk0)), rfl, bel.frame _, fun h => by cases h⟩

theorem over : Rows.lawS2811CTwoRowsRow.holds Yba.pinned (OpenSpec.ofChange Rows.lawS2811CTwoRowsSpec) :=
  OpenClaim.holds_of_wide 4 Yba.f4 rfl rfl rfl rfl rfl rfl rfl ⟨rfl, rfl, rfl, rfl, rfl⟩ rfl rfl rfl rfl rfl (by kernel_rfl) Yba.func4 (by kernel_rfl)
    (of_decide_eq_true (by kernel_rfl)) (by unfold Func.isWrapper; first | (rw [if_pos (by decide +kernel)]; kernel_rfl) | (rw [if_neg (by decide +kernel)]; exact ⟨rfl, rfl⟩))
    (fun os started H enc _ => lifted os started H enc)

/-- THE STATEMENT -/
theorem proved : Rows.LawS2811CTwoRowsSaid := over
#print axioms proved
end Go.Proofs.Ybulkbfeq.lawS2811CTwoRows
