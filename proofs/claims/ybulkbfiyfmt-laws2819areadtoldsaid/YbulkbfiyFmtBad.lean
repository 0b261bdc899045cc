/- The decoder at a failure: a read that runs past the end, a read behind an error. -/
import Derived.Test.YbulkbfiyFmtFail
namespace Go.Proofs.YbulkbfiyFmt
open Go.RowKit Go.Extern.Stop Go.Stop Go.Extern
attribute [local go_sem] call17 call19 fguard fmt_a fmt_ar fmt_b fmt_br fmt_c fmt_cr op5_100 op5_100w act5_100 op25_100 op25_100w act25_100 op3_100 op3_100w act3_100 op9_115w ptr53 elem53 eqNil22
set_option linter.unusedVariables false

/-- The next n bytes are not to be had. -/
def Bad (N off n : Nat) (ev : Value) : Prop := (∃ p, ev = .iface 53 (.pointer p)) ∨ (ev = .nilIface ∧ N < off + n)

set_option maxHeartbeats 1000000 in
theorem take_short (F : Interp) (D N cap off n : Nat) (a : Option Addr) (w : World) (hF : F.answers w.tape) (h : Dec w D (.slice a N cap) off .nilIface) (hn : N < off + n) (hb : N ≤ 100000) (ho : off ≤ N) (hn5 : n ≤ 5) :
    Calls Ybaf.prog 13 #[.pointer (some ⟨D, 0, none⟩), .int .i64 (n : Int)] w fun en w' => en = .returned (.slice none 0 0) ∧ ∃ p, Dec w' D (.slice a N cap) off (.iface 53 (.pointer p)) ∧ But w.heap.size D w w' := by
  have c0 := h.c0
  have c1 := h.c1
  have c2 := h.c2
  have hd : decide ((n : Int) < 0) = false := by simp
  have v1 : IntKind.i64.wrap ((N : Int) - (off : Int)) = (N : Int) - (off : Int) := IntWalk.i64_in _ ⟨by omega, by omega⟩
  have hd2 : decide ((N : Int) - (off : Int) < (n : Int)) = true := by simp; omega
  have HFl := hide (fun k => failf_none F D (.slice a N cap) off (w.drewN k) hF (h.drewN k))
  clear h
  go_enter Ybaf.func13, Ybaf.ntmps13
  go_wp2
  go_quiet (fail)
  go_wp2_with fail
  refine (HFl.out _).mono ?_
  rintro e w2 ⟨rfl, p, h2, t2⟩
  go_wp2
  go_ret
  exact ⟨rfl, p, h2, ⟨t2.os, t2.tape, t2.output, t2.size, t2.block⟩⟩

theorem take_bad (F : Interp) (D N cap off n : Nat) (a : Option Addr) (ev : Value) (w : World) (hF : F.answers w.tape) (h : Dec w D (.slice a N cap) off ev) (hn : Bad N off n ev) (hb : N ≤ 100000) (ho : off ≤ N) (hn5 : n ≤ 5) :
    Calls Ybaf.prog 13 #[.pointer (some ⟨D, 0, none⟩), .int .i64 (n : Int)] w fun en w' => en = .returned (.slice none 0 0) ∧ ∃ p, Dec w' D (.slice a N cap) off (.iface 53 (.pointer p)) ∧ But w.heap.size D w w' := by
  rcases hn with ⟨p, rfl⟩ | ⟨rfl, hn⟩
  · exact (take_err D _ _ _ off _ w h).mono fun e w' ⟨h1, h2⟩ => ⟨h1, p, h2 ▸ h, h2 ▸ But.refl _ _ _⟩
  · exact take_short F D N cap off n a w hF h hn hb ho hn5

set_option maxHeartbeats 400000 in
theorem uint8_bad (F : Interp) (D N cap off : Nat) (a : Option Addr) (ev : Value) (w : World) (hF : F.answers w.tape) (h : Dec w D (.slice a N cap) off ev) (hn : Bad N off 1 ev) (hb : N ≤ 100000) (ho : off ≤ N) :
    Calls Ybaf.prog 8 #[.pointer (some ⟨D, 0, none⟩)] w fun en w' => en = .returned (.int .u8 0) ∧ ∃ p, Dec w' D (.slice a N cap) off (.iface 53 (.pointer p)) ∧ But w.heap.size D w w' := by
  have HT := hide (take_bad F D N cap off 1 a ev w hF h hn hb ho (by omega))
  clear h hn
  go_enter Ybaf.func8, Ybaf.ntmps8
  go_wp2_with fail
  refine HT.out.mono ?_
  rintro e w2 ⟨rfl, p, h2, t2⟩
  go_wp2
  go_ret
  exact ⟨rfl, p, h2, t2⟩

set_option maxHeartbeats 400000 in
theorem octets_bad (F : Interp) (D N cap off : Nat) (a : Option Addr) (ev : Value) (w : World) (hF : F.answers w.tape) (h : Dec w D (.slice a N cap) off ev) (hn : Bad N off 5 ev) (hb : N ≤ 100000) (ho : off ≤ N) :
    Calls Ybaf.prog 14 #[.pointer (some ⟨D, 0, none⟩), .int .i64 5] w fun en w' => en = .returned (.slice none 0 0) ∧ ∃ p, Dec w' D (.slice a N cap) off (.iface 53 (.pointer p)) ∧ But w.heap.size D w w' := by
  have HT := hide (take_bad F D N cap off 5 a ev w hF h hn hb ho (by omega))
  clear h hn
  go_enter Ybaf.func14, Ybaf.ntmps14
  go_wp2_with fail
  refine HT.out.mono ?_
  rintro e w2 ⟨rfl, p, h2, t2⟩
  go_wp2_with fail
  refine (clone_nil w2).mono ?_
  rintro e w2 ⟨rfl, rfl⟩
  go_wp2
  go_ret
  exact ⟨rfl, p, h2, t2⟩

set_option maxRecDepth 1000000 in
set_option maxHeartbeats 1000000 in
theorem readCount_bad (F : Interp) (D N cap off : Nat) (a : Option Addr) (ev : Value) (w : World) (hF : F.answers w.tape) (h : Dec w D (.slice a N cap) off ev) (hn : Bad N off 5 ev) (hb : N ≤ 100000) (ho : off ≤ N) :
    Calls Ybaf.prog 10 #[.pointer (some ⟨D, 0, none⟩)] w fun en w' => en = .returned (.int .u64 0) ∧ ∃ p, Dec w' D (.slice a N cap) off (.iface 53 (.pointer p)) ∧ But w.heap.size D w w' := by
  have hDl : D < w.heap.size := h.lt
  have hb0 := (Below.refl w.heap.size w).alloc (Nat.le_refl _) (.cells #[.int .u8 0, .int .u8 0, .int .u8 0, .int .u8 0, .int .u8 0, .int .u8 0, .int .u8 0, .int .u8 0] 43)
  have h0 := h.below hb0 hDl
  have HO := hide (fun W hW1 hW2 => octets_bad F D N cap off a ev W hW1 hW2 hn hb ho)
  have HD := hide h0
  have HF := hide (show F.answers (w.alloc (.cells #[.int .u8 0, .int .u8 0, .int .u8 0, .int .u8 0, .int .u8 0, .int .u8 0, .int .u8 0, .int .u8 0] 43)).tape from hF)
  have k0 : (w.alloc (.cells #[.int .u8 0, .int .u8 0, .int .u8 0, .int .u8 0, .int .u8 0, .int .u8 0, .int .u8 0, .int .u8 0] 43)).heap[w.heap.size]? = some (.cells #[.int .u8 0, .int .u8 0, .int .u8 0, .int .u8 0, .int .u8 0, .int .u8 0, .int .u8 0, .int .u8 0] 43) := Go.Deep.blk_alloc_new _ _
  have HK := hide k0
  have HB := hide hb0
  clear h h0 hb0 k0 hF hn
  go_enter Ybaf.func10, Ybaf.ntmps10
  go_wp2
  go_region_with (go_at_call 14; refine (HO.out _ ?_ ?_).mono ?_; exact HF.out; exact HD.out; rintro e w3 ⟨rfl, p, hd, hbut⟩; have hrun := run_copy_nil (P := Ybaf.prog) w3 22 22 3 5 ⟨w.heap.size, 3, none⟩ 5 5 Ybaf.underlying22 (by kernel_rfl))
  all_goals
    have k3 := (hbut.block w.heap.size (by simp) (by omega)).trans HK.out
    have x0 : w3.cell? ⟨w.heap.size, 0, none⟩ = some (.int .u8 0) := by simp [World.cell?, k3]
    have x1 : w3.cell? ⟨w.heap.size, 1, none⟩ = some (.int .u8 0) := by simp [World.cell?, k3]
    have x2 : w3.cell? ⟨w.heap.size, 2, none⟩ = some (.int .u8 0) := by simp [World.cell?, k3]
    have x3 : w3.cell? ⟨w.heap.size, 3, none⟩ = some (.int .u8 ((0 : Nat) : Int)) := by simp [World.cell?, k3]
    have x4 : w3.cell? ⟨w.heap.size, 4, none⟩ = some (.int .u8 ((0 : Nat) : Int)) := by simp [World.cell?, k3]
    have x5 : w3.cell? ⟨w.heap.size, 5, none⟩ = some (.int .u8 ((0 : Nat) : Int)) := by simp [World.cell?, k3]
    have x6 : w3.cell? ⟨w.heap.size, 6, none⟩ = some (.int .u8 ((0 : Nat) : Int)) := by simp [World.cell?, k3]
    have x7 : w3.cell? ⟨w.heap.size, 7, none⟩ = some (.int .u8 ((0 : Nat) : Int)) := by simp [World.cell?, k3]
    have HU := hide (fun W => uint64_any w.heap.size 0 0 0 0 0 W)
    have H4 := hide hd
    have HW := hide (show But w.heap.size D w w3 from ((But.of_below HB.out).drew).trans (hbut.mono (by simp)))
    clear hd hbut k3
    go_wp2
    go_region_with (go_at_call 15; refine (HU.out _ ?_ ?_ ?_ ?_ ?_ ?_ ?_ ?_ (by omega) (by omega) (by omega) (by omega) (by omega)).mono ?_; exact x0; exact x1; exact x2; exact x3; exact x4; exact x5; exact x6; exact x7; rintro e w5 ⟨rfl, hb5⟩)
    all_goals
      go_wp2
      go_ret
      have hb6 : Below w3.heap.size w3 w5 := ⟨hb5.os, hb5.tape, hb5.output, hb5.size, hb5.block⟩
      exact ⟨rfl, p, H4.out.below hb6 H4.out.lt, HW.out.trans (But.of_below (hb6.mono HW.out.size))⟩

end Go.Proofs.YbulkbfiyFmt
