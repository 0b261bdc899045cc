/- (*Decoder).Failf: it lays an error. -/
import Derived.Test.YbulkbfiyFmtFacts
namespace Go.Proofs.YbulkbfiyFmt
open Go.RowKit Go.Extern.Stop Go.Stop Go.Extern
attribute [local go_sem] call17 call19 fguard fmt_a fmt_ar fmt_b fmt_br fmt_c fmt_cr op5_100 op5_100w act5_100 op25_100 op25_100w act25_100 op3_100 op3_100w act3_100 op9_115w ptr53 elem53 eqNil22
set_option linter.unusedVariables false

theorem sprint_none (F : Interp) (w : World) (hF : F.answers w.tape) : Rows Ybaf.prog FmtCalls.turnsRow (FmtCalls.save 0 0 (.slice none 0 0) ⟨#[118, 97, 108, 117, 101, 32, 114, 117, 110, 115, 32, 112, 97, 115, 116, 32, 116, 104, 101, 32, 101, 110, 100, 32, 111, 102, 32, 116, 104, 101, 32, 105, 110, 112, 117, 116]⟩ [] []) w fun v w' => ∃ s, v = .string s ∧ Below w.heap.size w w' := by
  have hF' := answers_open hF
  apply rows_value nextTurns
  case hr =>
    go_simp
    exact ⟨rfl, rfl⟩
  case h => exact ⟨_, rfl, (Below.refl _ w).drew⟩

theorem sprint_two (F : Interp) (X d c : Nat) (w : World) (hF : F.answers w.tape) (h0 : w.cell? ⟨X, 0, none⟩ = some (.iface 5 (.int .u8 (d : Int)))) (h1 : w.cell? ⟨X, 1, none⟩ = some (.iface 25 (.int .u64 (c : Int)))) : Rows Ybaf.prog FmtCalls.turnsRow (FmtCalls.save 0 0 (.slice (some ⟨X, 0, none⟩) 2 2) ⟨#[110, 111, 32, 116, 114, 101, 101, 32, 104, 97, 115, 32, 97, 32, 110, 111, 100, 101, 32, 37, 100, 32, 100, 101, 101, 112, 32, 119, 105, 116, 104, 32, 116, 104, 101, 32, 99, 111, 117, 110, 116, 32, 37, 100]⟩ [] [(0, 100, false), (1, 100, false)]) w fun v w' => ∃ s, v = .string s ∧ Below w.heap.size w w' := by
  have hF' := answers_open hF
  apply rows_value nextTurns
  case hr =>
    go_simp
    exact ⟨rfl, rfl⟩
  case h => exact ⟨_, rfl, (Below.refl _ w).drew⟩

set_option maxHeartbeats 2000000 in
theorem failf_none (F : Interp) (D : Nat) (sv : Value) (off : Nat) (w : World) (hF : F.answers w.tape) (h : Dec w D sv off .nilIface) :
    Calls Ybaf.prog 12 #[.pointer (some ⟨D, 0, none⟩), .string ⟨#[118, 97, 108, 117, 101, 32, 114, 117, 110, 115, 32, 112, 97, 115, 116, 32, 116, 104, 101, 32, 101, 110, 100, 32, 111, 102, 32, 116, 104, 101, 32, 105, 110, 112, 117, 116]⟩, .slice none 0 0] w fun e w' =>
      e = .returned (.tuple #[]) ∧ ∃ p, Dec w' D sv off (.iface 53 (.pointer p)) ∧ But w.heap.size D w w' := by
  have c1 := h.c1
  have c2 := h.c2
  have hDl := h.lt
  have HF := hide hF
  have HD := hide h
  have HR := hide (fun W hW => sprint_none F W hW)
  clear h hF
  go_enter Ybaf.func12, Ybaf.ntmps12
  go_wp2
  go_region_with (first
    | (go_at_call 16; refine (errorf_any F (off : Int) s w2.heap.size _ ?_ ?_ ?_).mono ?_; exact HF2.out; exact (World.cell?_alloc_at _ _ _ _ rfl).trans rfl; exact (World.cell?_alloc_at _ _ _ _ rfl).trans rfl; rintro e w3 ⟨p, rfl, hb3⟩; have hb4 : Below w2.heap.size w2 w3 := ((Below.refl w2.heap.size w2).alloc (Nat.le_refl _) _).trans (hb3.mono (by simp)); have d3 := HD2.out.below hb4 HD2.out.lt; have f3 := d3.f1 2; have g3 := d3.c2; have HD3 := hide d3; have HB3 := hide (HB2.out.trans (hb4.mono HB2.out.size)); clear hb3 hb4 d3)
    | (refine (HR.out _ ?_).mono ?_; exact HF.out; rintro v w2 ⟨s, rfl, hb2⟩; have HB2 := hide (show Below w.heap.size w w2 from ⟨hb2.os, hb2.tape, hb2.output, hb2.size, hb2.block⟩); have HD2 := hide (HD.out.below HB2.out HD.out.lt); have HF2 := hide (show F.answers w2.tape from by rw [HB2.out.tape]; exact HF.out); have e1 := HD2.out.c1; have e2 := HD2.out.c2; clear hb2))
  all_goals
    go_wp2
    go_end0
    exact ⟨rfl, p, HD3.out.set2 _, (But.of_below HB3.out).setCell _ _⟩

set_option maxHeartbeats 2000000 in
theorem failf_two (F : Interp) (D : Nat) (sv : Value) (off : Nat) (X d c : Nat) (w : World) (hF : F.answers w.tape) (h : Dec w D sv off .nilIface) (h0 : w.cell? ⟨X, 0, none⟩ = some (.iface 5 (.int .u8 (d : Int)))) (h1 : w.cell? ⟨X, 1, none⟩ = some (.iface 25 (.int .u64 (c : Int)))) :
    Calls Ybaf.prog 12 #[.pointer (some ⟨D, 0, none⟩), .string ⟨#[110, 111, 32, 116, 114, 101, 101, 32, 104, 97, 115, 32, 97, 32, 110, 111, 100, 101, 32, 37, 100, 32, 100, 101, 101, 112, 32, 119, 105, 116, 104, 32, 116, 104, 101, 32, 99, 111, 117, 110, 116, 32, 37, 100]⟩, .slice (some ⟨X, 0, none⟩) 2 2] w fun e w' =>
      e = .returned (.tuple #[]) ∧ ∃ p, Dec w' D sv off (.iface 53 (.pointer p)) ∧ But w.heap.size D w w' := by
  have c1 := h.c1
  have c2 := h.c2
  have hDl := h.lt
  have HF := hide hF
  have HD := hide h
  have HR := hide (fun W hW => sprint_two F X d c W hW)
  have H0 := hide h0
  have H1 := hide h1
  clear h0 h1
  clear h hF
  go_enter Ybaf.func12, Ybaf.ntmps12
  go_wp2
  go_region_with (first
    | (go_at_call 16; refine (errorf_any F (off : Int) s w2.heap.size _ ?_ ?_ ?_).mono ?_; exact HF2.out; exact (World.cell?_alloc_at _ _ _ _ rfl).trans rfl; exact (World.cell?_alloc_at _ _ _ _ rfl).trans rfl; rintro e w3 ⟨p, rfl, hb3⟩; have hb4 : Below w2.heap.size w2 w3 := ((Below.refl w2.heap.size w2).alloc (Nat.le_refl _) _).trans (hb3.mono (by simp)); have d3 := HD2.out.below hb4 HD2.out.lt; have f3 := d3.f1 2; have g3 := d3.c2; have HD3 := hide d3; have HB3 := hide (HB2.out.trans (hb4.mono HB2.out.size)); clear hb3 hb4 d3)
    | (refine (HR.out _ ?_ ?_ ?_).mono ?_; exact HF.out; exact H0.out; exact H1.out; rintro v w2 ⟨s, rfl, hb2⟩; have HB2 := hide (show Below w.heap.size w w2 from ⟨hb2.os, hb2.tape, hb2.output, hb2.size, hb2.block⟩); have HD2 := hide (HD.out.below HB2.out HD.out.lt); have HF2 := hide (show F.answers w2.tape from by rw [HB2.out.tape]; exact HF.out); have e1 := HD2.out.c1; have e2 := HD2.out.c2; clear hb2))
  all_goals
    go_wp2
    go_end0
    exact ⟨rfl, p, HD3.out.set2 _, (But.of_below HB3.out).setCell _ _⟩

end Go.Proofs.YbulkbfiyFmt
