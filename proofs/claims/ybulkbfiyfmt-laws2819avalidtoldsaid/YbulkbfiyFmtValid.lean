/- LawS2819AValid, walked. -/
import Derived.Test.YbulkbfiyFmtSrc
namespace Go.Proofs.YbulkbfiyFmt
open Go.RowKit
attribute [local go_sem] eqNil22
set_option linter.unusedVariables false

set_option maxRecDepth 1000000 in
set_option maxHeartbeats 1000000 in
theorem valid_big (x c : Int) (a : Option Addr) (n cap : Nat) (w : World) (h : 1024 < n) : Calls Ybaf.prog 4 #[.int .u8 x, .int .u64 c, .slice a n cap] w fun e w' => e = .returned (.bool true) ∧ Below w.heap.size w w' := by
  have hd : decide ((1024 : Int) < (n : Int)) = true := by simp; omega
  go_enter Ybaf.func4, Ybaf.ntmps4
  go_wp2
  go_ret
  exact ⟨rfl, Below.refl _ _⟩

/-- The numbers of the call. -/
structure Nums (x c : Int) (k d P M cc a0 a1 a2 a3 a4 : Nat) : Prop where
  hk : x % 41 = (k : Int)
  hd : (40 : Int) - (k : Int) = (d : Int)
  hP : IntKind.u64.wrap (2 ^ d) = (P : Int)
  hM : IntKind.u64.wrap ((P : Int) - 1) = (M : Int)
  hc : bits .and .u64 c (M : Int) = (cc : Int)
  e0 : (cc : Int) / 4294967296 % 256 = (a0 : Int)
  e1 : (cc : Int) / 16777216 % 256 = (a1 : Int)
  e2 : (cc : Int) / 65536 % 256 = (a2 : Int)
  e3 : (cc : Int) / 256 % 256 = (a3 : Int)
  e4 : (cc : Int) % 256 = (a4 : Int)
  lt : d < 256 ∧ a0 < 256 ∧ a1 < 256 ∧ a2 < 256 ∧ a3 < 256 ∧ a4 < 256
  be : cc = be5 a0 a1 a2 a3 a4
  fit : fits d cc = true

def six (d a0 a1 a2 a3 a4 : Nat) : List Value := [.int .u8 (d : Int), .int .u8 (a0 : Int), .int .u8 (a1 : Int), .int .u8 (a2 : Int), .int .u8 (a3 : Int), .int .u8 (a4 : Int)]

set_option maxRecDepth 1000000 in
set_option maxHeartbeats 4000000 in
theorem valid_run (x c : Int) (k d P M cc a0 a1 a2 a3 a4 : Nat) (a : Option Addr) (n cap : Nat) (t : Nat → Int) (w : World) (hx : 0 ≤ x ∧ x ≤ 255) (hcb : 0 ≤ c ∧ c < 18446744073709551616) (hN : Nums x c k d P M cc a0 a1 a2 a3 a4) (hn : n ≤ 1024) (hs : Src w (.slice a n cap) (bs n t)) : Calls Ybaf.prog 4 #[.int .u8 x, .int .u64 c, .slice a n cap] w fun e w' => e = .returned (.bool true) ∧ Below w.heap.size w w' := by
  have hd0 : decide ((1024 : Int) < (n : Int)) = false := by simp; omega
  obtain ⟨hk, hd, hP, hM, hc, e0, e1, e2, e3, e4, hlt, hbe, hfit⟩ := hN
  obtain ⟨ld, l0, l1, l2, l3, l4⟩ := hlt
  have HL := hide hbe
  have HF := hide hfit
  have HS := hide hs
  clear hbe hfit hs
  have hBA := (Below.refl w.heap.size w).alloc (Nat.le_refl _) (.cells (six d a0 a1 a2 a3 a4).toArray 5)
  have HBA := hide hBA
  have hown : (w.alloc (.cells (six d a0 a1 a2 a3 a4).toArray 5)).ownsRow w.heap.size 5 1 (.slice (some ⟨w.heap.size, 0, none⟩) 6 6) 6 (six d a0 a1 a2 a3 a4) :=
    ⟨by simp [six], .inr ⟨w.heap.size, 6, (six d a0 a1 a2 a3 a4).toArray, rfl, Nat.le_refl _, Go.Deep.blk_alloc_new w _, Nat.le_refl _, by decide, by simp [six], by simp [six]⟩⟩
  have HO := hide hown
  clear hown hBA
  go_enter Ybaf.func4, Ybaf.ntmps4
  go_wp2_with (first
    | (at_builtin; refine wpList_append_src rfl _ _ rfl w.heap.size _ 6 (six d a0 a1 a2 a3 a4) rfl ?o1 (.slice a n cap) (bs n t) rfl ?o2 (fun u hu => bs_one hu) ?o3 ?o4 ?_))
  case o1 => exact HO.out
  case o2 => exact HS.out.below HBA.out (Nat.le_refl _)
  case o3 => rw [bs_length]; omega
  case o4 => simp
  intro v' w2 h2 h3
  rw [bs_length] at h2
  obtain ⟨g, cp, rfl, hgB, hgl, hcp, hcells⟩ := owns_form h2 (by omega)
  have hb2 : Below w.heap.size w w2 := HBA.out.trans (HasBytes.of_grown h3 w.heap.size (fun k hk => by cases hk; exact Nat.le_refl _) (by simp))
  have hc6 : ∀ j, j < 6 → w2.cell? ⟨g, j, none⟩ = some ((six d a0 a1 a2 a3 a4).getD j .nilIface) := fun j hj => hcells j _ (by
    rw [List.getElem?_append_left (by simp [six]; omega)]
    match j, hj with
    | 0, _ => rfl
    | 1, _ => rfl
    | 2, _ => rfl
    | 3, _ => rfl
    | 4, _ => rfl
    | 5, _ => rfl)
  have hct : 0 < n → w2.cell? ⟨g, 6, none⟩ = some (.int .u8 (t 0)) := fun h => hcells 6 _ (by
    rw [List.getElem?_append_right (by simp [six])]
    exact bs_at h)
  have HC6 := hide hc6
  have HCT := hide hct
  have HB2 := hide hb2
  clear h2 h3 hcells hc6 hct hk hd hP hM hc e0 e1 e2 e3 e4 HO HBA
  go_wp2_with fail
  refine (newDecoder _ _ _ w2).mono ?_
  rintro e w3 ⟨rfl, rfl⟩
  have hb3 := (Below.refl w2.heap.size w2).alloc (Nat.le_refl _) (.cells #[.slice (some ⟨g, 0, none⟩) (6 + n) cp, .int .i64 0, .nilIface] 38)
  have hD3 : Dec (w2.alloc (.cells #[.slice (some ⟨g, 0, none⟩) (6 + n) cp, .int .i64 0, .nilIface] 38)) w2.heap.size (.slice (some ⟨g, 0, none⟩) (6 + n) cp) 0 .nilIface := Go.Deep.blk_alloc_new _ _
  have s3 : w2.heap.size < (w2.alloc (.cells #[.slice (some ⟨g, 0, none⟩) (6 + n) cp, .int .i64 0, .nilIface] 38)).heap.size := by simp
  generalize w2.alloc (.cells #[.slice (some ⟨g, 0, none⟩) (6 + n) cp, .int .i64 0, .nilIface] 38) = w3 at *
  have HB3 := hide (HB2.out.trans (hb3.mono HB2.out.size))
  have hgD : g ≠ w2.heap.size := by omega
  go_wp2_with fail
  refine (readPosition_ok w2.heap.size g 0 (6 + n) cp 0 d a0 a1 a2 a3 a4 cc w3 hD3 (by omega) hcp (by omega) hgD ld l0 l1 l2 l3 l4 HL.out HF.out ?q1 ?q2).mono ?_
  case q1 => exact (hb3.cell (p := ⟨g, 0, none⟩) hgl).trans (HC6.out 0 (by omega))
  case q2 =>
    intro j hj
    have := (hb3.cell (p := ⟨g, 0 + (0 + 1) + j, none⟩) hgl).trans (HC6.out (0 + (0 + 1) + j) (by omega))
    rw [this]
    match j, hj with
    | 0, _ => rfl
    | 1, _ => rfl
    | 2, _ => rfl
    | 3, _ => rfl
    | 4, _ => rfl
  rintro e w4 ⟨rfl, h4, t4⟩
  have HB4 := hide (HB3.out.trans (t4.below (Nat.le_of_lt (Nat.lt_of_le_of_lt HB2.out.size s3)) HB2.out.size))
  have HT4 := hide (fun h => (t4.cell (p := ⟨g, 6, none⟩) (by show g < w3.heap.size; omega) hgD).trans ((hb3.cell (p := ⟨g, 6, none⟩) hgl).trans (HCT.out h)))
  have hDl4 := h4.lt
  have hb5 := (Below.refl w4.heap.size w4).alloc (Nat.le_refl _) (.cells #[.int .u8 (d : Int), .int .u64 (cc : Int)] 27)
  have p5 := Pair.new w4 d cc
  have h5 := h4.below hb5 h4.lt
  have HT5 := hide (fun h => (hb5.cell (p := ⟨g, 6, none⟩) (by show g < w4.heap.size; omega)).trans (HT4.out h))
  have HB5 := hide (HB4.out.trans (hb5.mono HB4.out.size))
  have q0 := p5.c0
  have q1 := p5.c1
  have HE := hide (err_any _ _ _ _ _ h5)
  have HD5 := hide h5
  clear p5 h5 h4 t4 hb5 hb3 hD3
  rcases Nat.eq_zero_or_pos n with h0 | h0
  · have hd2 : decide ((0 : Int) < (n : Int)) = false := by simp; omega
    go_wp2_with (go_at_call 7; refine HE.out.mono ?_; rintro e w6 ⟨rfl, rfl⟩)
    go_ret
    exact ⟨rfl, HB5.out⟩
  · have hd2 : decide ((0 : Int) < (n : Int)) = true := by simp; omega
    obtain ⟨tb, toff, rfl, htl, htc⟩ := HS.out.at0 h0
    have ct0 := (HB5.out.cell (p := ⟨tb, toff, none⟩) htl).trans (htc 0 h0)
    have htD : tb ≠ w2.heap.size := by have := HB2.out.size; omega
    have hl5 : tb < (w4.alloc (Obj.cells #[Value.int IntKind.u8 (d : Int), Value.int IntKind.u64 (cc : Int)] 27)).heap.size := by simp; have := HB4.out.size; omega
    have hU := uint8_ok w2.heap.size g 0 (6 + n) cp (0 + 6) (t 0) _ HD5.out (by omega) hcp (by omega) hgD (HT5.out h0)
    have HU := hide hU
    clear hU htc
    go_wp2_with (go_at_call 7; refine HE.out.mono ?_; rintro e w6 ⟨rfl, rfl⟩)
    generalize w4.alloc (Obj.cells #[Value.int IntKind.u8 (d : Int), Value.int IntKind.u64 (cc : Int)] 27) = w5 at *
    have hUd : Calls Ybaf.prog 8 #[.pointer (some ⟨w2.heap.size, 0, none⟩)] w5.drew fun en w' => en = .returned (.int .u8 (t 0)) ∧ (w'.cell? ⟨tb, toff, none⟩ = some (.int .u8 (t 0)) ∧ Below w.heap.size w w' ∧ Dec w' w2.heap.size (.slice (some ⟨g, 0, none⟩) (6 + n) cp) (0 + 6 + 1) .nilIface) :=
      (uint8_ok w2.heap.size g 0 (6 + n) cp (0 + 6) (t 0) w5.drew HD5.out (by omega) hcp (by omega) hgD (HT5.out h0)).mono (fun e w' h => by
        obtain ⟨h1, h2, h3, h4⟩ := h
        have h5 : But w5.heap.size w2.heap.size w5 w' := ⟨h3.os, h3.tape, h3.output, h3.size, h3.block⟩
        exact ⟨h1, (h5.cell (p := ⟨tb, toff, none⟩) hl5 htD).trans ct0, HB5.out.trans (h5.below HB5.out.size HB2.out.size), h2⟩)
    have HUd := hide hUd
    clear hUd
    go_region_with (first
      | (go_at_call 8; refine HUd.out.mono ?_; rintro e w6 ⟨rfl, ct1, hb6, h6⟩; have HB6 := hide hb6; have HE6 := hide (err_any _ _ _ _ _ h6); clear h6 hb6)
      | (go_at_call 7; refine HE6.out.mono ?_; rintro e w7 ⟨rfl, rfl⟩))
    all_goals
      go_wp2
      go_ret
      exact ⟨rfl, HB6.out⟩

theorem nums_of (x c : Int) (hx : 0 ≤ x ∧ x ≤ 255) (hc : 0 ≤ c ∧ c < 18446744073709551616) : ∃ k d P M cc a0 a1 a2 a3 a4, Nums x c k d P M cc a0 a1 a2 a3 a4 := by
  obtain ⟨k, hk⟩ : ∃ k : Nat, x % 41 = (k : Int) := ⟨(x % 41).toNat, by omega⟩
  have hk40 : k ≤ 40 := by omega
  have hp : 2 ^ (40 - k) ≤ 1099511627776 := Nat.pow_le_pow_right (n := 2) (by omega) (show 40 - k ≤ 40 by omega)
  have hp0 : 0 < 2 ^ (40 - k) := Nat.pow_pos (by omega)
  obtain ⟨m, hm⟩ : ∃ m : Nat, c = (m : Int) := ⟨c.toNat, by omega⟩
  have hlt : m % 2 ^ (40 - k) < 2 ^ (40 - k) := Nat.mod_lt _ hp0
  have hd : (40 : Int) - (k : Int) = ((40 - k : Nat) : Int) := by omega
  have hd40 : 40 - k ≤ 40 := by omega
  generalize 40 - k = d at hp hp0 hlt hd hd40
  have hcast : ((2 : Int) ^ d) = ((2 ^ d : Nat) : Int) := by push_cast; rfl
  have hP : IntKind.u64.wrap ((2 : Int) ^ d) = ((2 ^ d : Nat) : Int) := by
    rw [hcast]
    exact u64_wrap_id _ (by omega) (by omega)
  have hfit : fits d (m % 2 ^ d) = true := by
    simp only [fits, Nat.div_eq_of_lt hlt, decide_eq_true hd40, Bool.true_and, decide_true]
  have hand : m &&& (2 ^ d - 1) = m % 2 ^ d := Nat.and_two_pow_sub_one_eq_mod m d
  have hM : IntKind.u64.wrap (((2 ^ d : Nat) : Int) - 1) = ((2 ^ d - 1 : Nat) : Int) := by
    rw [u64_wrap_id _ (by omega) (by omega)]
    omega
  have hC : bits .and .u64 c ((2 ^ d - 1 : Nat) : Int) = ((m % 2 ^ d : Nat) : Int) := by
    rw [hm, bits_and_u64_nat m (2 ^ d - 1) (by omega) (by omega), hand]
  clear hand hcast
  generalize m % 2 ^ d = cc at *
  refine ⟨k, d, 2 ^ d, 2 ^ d - 1, cc, cc / 4294967296 % 256, cc / 16777216 % 256, cc / 65536 % 256, cc / 256 % 256, cc % 256, hk, hd, hP, hM, hC, by omega, by omega, by omega, by omega, by omega, by omega, ?_, hfit⟩
  unfold be5
  omega

end Go.Proofs.YbulkbfiyFmt
