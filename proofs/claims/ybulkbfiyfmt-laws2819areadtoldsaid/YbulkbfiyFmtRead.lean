/- WRITTEN BY PROGRAM (genread.py): LawS2819ARead, walked at the four kinds of input. -/
import Derived.Test.YbulkbfiyFmtEqual
namespace Go.Proofs.YbulkbfiyFmt
open Go.RowKit Go.Extern.Stop Go.Stop Go.Extern
attribute [local go_sem] call17 call19 fguard fmt_a fmt_ar fmt_b fmt_br fmt_c fmt_cr op5_100 op5_100w act5_100 op25_100 op25_100w act25_100 op3_100 op3_100w act3_100 op9_115w ptr53 elem53 eqNil22
set_option linter.unusedVariables false

theorem owns_src {w : World} {B n : Nat} {v : Value} {x : Nat → Int} (h : w.ownsRow B 5 1 v n (bs n x)) : ∃ a cp, v = .slice a n cp ∧ Src w (.slice a n cp) (bs n x) := by
  rcases h.2 with ⟨e, hn⟩ | ⟨g, cap, cur, e, hB, hg, hc, hm, hs, ht⟩
  · subst hn
    exact ⟨none, 0, e, .inl ⟨rfl, rfl⟩⟩
  · refine ⟨some ⟨g, 0, none⟩, cap, e, .inr ⟨⟨g, 0, none⟩, n, cap, rfl, bs_length _ _, fun j u hu => ?_⟩⟩
    rw [addr_add, Nat.zero_add, cell_of_row w g j cur 5 (0, 0) hg]
    rw [← ht, List.getElem?_take] at hu
    split at hu
    · simpa using hu
    · cases hu

set_option maxRecDepth 1000000 in
set_option maxHeartbeats 1000000 in
theorem read_big (a : Option Addr) (n cap : Nat) (w : World) (h : 1024 < n) : Calls Ybaf.prog 3 #[.slice a n cap] w fun e w' => e = .returned (.bool true) ∧ Below w.heap.size w w' := by
  have hd : decide ((1024 : Int) < (n : Int)) = true := by simp; omega
  go_enter Ybaf.func3, Ybaf.ntmps3
  go_wp2
  go_ret
  exact ⟨rfl, Below.refl _ _⟩

theorem fits_lt (d c : Nat) (hd : d ≤ 40) : fits d c = decide (c < 2 ^ d) := by
  have hp : 0 < 2 ^ d := Nat.pow_pos (by omega)
  unfold fits
  rw [decide_eq_true hd, Bool.true_and]
  by_cases h : c < 2 ^ d
  · rw [Nat.div_eq_of_lt h]; simp [h]
  · have : c / 2 ^ d ≠ 0 := by
      intro e
      rcases Nat.div_eq_zero_iff.1 e with e | e
      · omega
      · exact h e
    simp [h, this]

theorem shl_dec (d c : Nat) (hd : d ≤ 40) : ∃ P : Nat, IntKind.u64.wrap ((2 : Int) ^ d) = (P : Int) ∧ decide (c < P) = fits d c := by
  have hp : 2 ^ d ≤ 2 ^ 40 := Nat.pow_le_pow_right (n := 2) (by omega) hd
  have hp0 : 0 < 2 ^ d := Nat.pow_pos (by omega)
  have hcast : ((2 : Int) ^ d) = ((2 ^ d : Nat) : Int) := by push_cast; rfl
  refine ⟨2 ^ d, ?_, ?_⟩
  · rw [hcast]
    exact u64_wrap_id _ (by omega) (by omega)
  · rw [fits_lt d c hd]

set_option maxRecDepth 1000000 in
set_option maxHeartbeats 4000000 in
theorem read_none (F : Interp) (a : Option Addr) (n cap : Nat) (x : Nat → Nat) (w : World) (hF : F.answers w.tape) (hx : ∀ i, x i < 256) (hs : Src w (.slice a n cap) (bs n fun i => (x i : Int))) (hn : n < 1) :
    Calls Ybaf.prog 3 #[.slice a n cap] w fun e w' => e = .returned (.bool true) ∧ Below w.heap.size w w' := by
  have hd0 : decide ((1024 : Int) < (n : Int)) = false := by simp; omega
  have HS := hide hs
  have HF := hide hF
  have HX := hide hx
  clear hs hF hx
  have hd1 : decide ((1 : Int) ≤ (n : Int)) = false := by simp; omega
  have hd2 : decide ((6 : Int) ≤ (n : Int)) = false := by simp; omega
  go_enter Ybaf.func3, Ybaf.ntmps3
  go_wp2_with (first
    | (at_builtin; refine wpList_append_src rfl _ _ rfl w.heap.size _ 0 [] rfl ?o1 (.slice a n cap) (bs n fun i => (x i : Int)) rfl ?o2 (fun u hu => bs_one hu) ?o3 ?o4 ?_))
  case o1 => exact World.ownsRow_nil _ _ _ _
  case o2 => exact HS.out
  case o3 => rw [bs_length]; omega
  case o4 => exact Nat.le_refl _
  intro v' w2 h2 h3
  rw [bs_length] at h2
  have HB2 := hide (show Below w.heap.size w w2 from HasBytes.of_grown h3 w.heap.size (fun k hk => by cases hk) (Nat.le_refl _))
  obtain ⟨b', cp, rfl, hsb⟩ := owns_src h2
  have HSB := hide hsb
  clear h2 h3 hsb
  go_wp2_with fail
  refine (newDecoder _ _ _ w2).mono ?_
  rintro e w3 ⟨rfl, rfl⟩
  have hb3 := (Below.refl w2.heap.size w2).alloc (Nat.le_refl _) (.cells #[.slice b' n cp, .int .i64 0, .nilIface] 38)
  have hD3 : Dec (w2.alloc (.cells #[.slice b' n cp, .int .i64 0, .nilIface] 38)) w2.heap.size (.slice b' n cp) 0 .nilIface := Go.Deep.blk_alloc_new _ _
  have s3 : w2.heap.size < (w2.alloc (.cells #[.slice b' n cp, .int .i64 0, .nilIface] 38)).heap.size := by simp
  generalize w2.alloc (.cells #[.slice b' n cp, .int .i64 0, .nilIface] 38) = w3 at *
  have hF3 : F.answers w3.tape := by rw [hb3.tape, HB2.out.tape]; exact HF.out
  go_wp2_with fail
  refine (readPosition_short F w2.heap.size n cp b' 0 w3 hF3 (by omega) (by omega) s3 (fun W hW => (uint8_bad F w2.heap.size n cp 0 b' .nilIface W (by rw [hW.tape]; exact hF3) (hD3.below hW s3) (.inr ⟨rfl, by omega⟩) (by omega) (by omega)).mono fun e w' h => by
    obtain ⟨h1, p, h2, h3⟩ := h
    exact ⟨h1, 0, _, h2, .inl ⟨p, rfl⟩, by omega, h3⟩)).mono ?_
  rintro e w4 ⟨rfl, off4, p4, h4, ho4, t4⟩
  have HB4 := hide (hb3.trans (t4.below (Nat.le_of_lt s3) (Nat.le_refl _)))
  have p5 := Pair.new w4 ((0 : Nat) : Int) 0
  have hb5 := (Below.refl w4.heap.size w4).alloc (Nat.le_refl _) (.cells #[.int .u8 ((0 : Nat) : Int), .int .u64 0] 27)
  have h5 := h4.below hb5 h4.lt
  have s5 : w4.heap.size < (w4.alloc (.cells #[.int .u8 ((0 : Nat) : Int), .int .u64 0] 27)).heap.size := by simp
  have HB5 := hide (HB4.out.trans (hb5.mono HB4.out.size))
  have HW5 := hide (HB2.out.trans (HB5.out.mono HB2.out.size))
  have q0 := p5.c0
  have q1 := p5.c1
  have HE := hide (err_any _ _ _ _ _ h5)
  have HD5 := hide h5
  have hF5 := hide (show F.answers (w4.alloc (.cells #[.int .u8 ((0 : Nat) : Int), .int .u64 0] 27)).tape from by rw [HW5.out.tape]; exact HF.out)
  clear p5 h5 h4 t4 hb5 hb3 hD3 hF3

  go_wp2_with (go_at_call 7; refine HE.out.mono ?_; rintro e w6 ⟨rfl, rfl⟩)
  refine (uint8_bad F w2.heap.size n cp off4 b' _ _ hF5.out HD5.out (.inl ⟨_, rfl⟩) (by omega) ho4).mono ?_
  rintro e w6 ⟨rfl, p6, h6, t6⟩
  have HB6 := hide (HB5.out.trans (t6.below (Nat.le_trans HB4.out.size (Nat.le_of_lt s5)) (Nat.le_refl _)))
  have HW6 := hide (HB2.out.trans (HB6.out.mono HB2.out.size))
  have HE6 := hide (err_any _ _ _ _ _ h6)
  clear t6 h6
  go_wp2_with (go_at_call 7; refine HE6.out.mono ?_; rintro e w7 ⟨rfl, rfl⟩)
  refine (equal_src _ _ _ _ _ (fun i => (x i : Int)) _ (HSB.out.below HB6.out (Nat.le_refl _)) (HS.out.below HW6.out (Nat.le_refl _))).mono ?_
  rintro e w7 ⟨rfl, rfl⟩
  go_wp2
  go_ret
  exact ⟨rfl, HW6.out⟩

set_option maxRecDepth 1000000 in
set_option maxHeartbeats 4000000 in
theorem read_short (F : Interp) (a : Option Addr) (n cap : Nat) (x : Nat → Nat) (w : World) (hF : F.answers w.tape) (hx : ∀ i, x i < 256) (hs : Src w (.slice a n cap) (bs n fun i => (x i : Int))) (hn : 1 ≤ n) (hn6 : n < 6) :
    Calls Ybaf.prog 3 #[.slice a n cap] w fun e w' => e = .returned (.bool true) ∧ Below w.heap.size w w' := by
  have hd0 : decide ((1024 : Int) < (n : Int)) = false := by simp; omega
  have HS := hide hs
  have HF := hide hF
  have HX := hide hx
  clear hs hF hx
  obtain ⟨tb, toff, rfl, htl, htc⟩ := HS.out.at0 (by omega)
  have HTC := hide htc
  clear htc
  have hn0 : 0 < n := by omega
  have hd1 : decide ((1 : Int) ≤ (n : Int)) = true := by simp; omega
  have hd2 : decide ((6 : Int) ≤ (n : Int)) = false := by simp; omega
  go_enter Ybaf.func3, Ybaf.ntmps3
  go_wp2_with (first
    | (at_builtin; refine wpList_append_src rfl _ _ rfl w.heap.size _ 0 [] rfl ?o1 (.slice (some ⟨tb, toff, none⟩) n cap) (bs n fun i => (x i : Int)) rfl ?o2 (fun u hu => bs_one hu) ?o3 ?o4 ?_))
  case o1 => exact World.ownsRow_nil _ _ _ _
  case o2 => exact HS.out
  case o3 => rw [bs_length]; omega
  case o4 => exact Nat.le_refl _
  intro v' w2 h2 h3
  rw [bs_length] at h2
  have HB2 := hide (show Below w.heap.size w w2 from HasBytes.of_grown h3 w.heap.size (fun k hk => by cases hk) (Nat.le_refl _))
  obtain ⟨b', cp, rfl, hsb⟩ := owns_src h2
  have HSB := hide hsb
  obtain ⟨g, cp', e', hgB, hgl, hcp, hcells⟩ := owns_form h2 (by omega)
  simp only [Value.slice.injEq] at e'
  obtain ⟨rfl, _, rfl⟩ := e'
  have HC := hide (show ∀ j, j < n → w2.cell? ⟨g, j, none⟩ = some (.int .u8 (x j : Int)) from fun j hj => hcells j _ (bs_at hj))
  have hgD : g ≠ w2.heap.size := by omega
  clear hcells
  clear h2 h3 hsb
  go_wp2_with fail
  refine (newDecoder _ _ _ w2).mono ?_
  rintro e w3 ⟨rfl, rfl⟩
  have hb3 := (Below.refl w2.heap.size w2).alloc (Nat.le_refl _) (.cells #[.slice (some ⟨g, 0, none⟩) n cp, .int .i64 0, .nilIface] 38)
  have hD3 : Dec (w2.alloc (.cells #[.slice (some ⟨g, 0, none⟩) n cp, .int .i64 0, .nilIface] 38)) w2.heap.size (.slice (some ⟨g, 0, none⟩) n cp) 0 .nilIface := Go.Deep.blk_alloc_new _ _
  have s3 : w2.heap.size < (w2.alloc (.cells #[.slice (some ⟨g, 0, none⟩) n cp, .int .i64 0, .nilIface] 38)).heap.size := by simp
  generalize w2.alloc (.cells #[.slice (some ⟨g, 0, none⟩) n cp, .int .i64 0, .nilIface] 38) = w3 at *
  have hF3 : F.answers w3.tape := by rw [hb3.tape, HB2.out.tape]; exact HF.out
  go_wp2_with fail
  refine (readPosition_short F w2.heap.size n cp (some ⟨g, 0, none⟩) (x 0) w3 hF3 (by omega) (HX.out 0) s3 (fun W hW => (uint8_ok w2.heap.size g 0 n cp 0 (x 0) W (hD3.below hW s3) (by omega) hcp (by omega) hgD ((hW.cell (p := ⟨g, 0, none⟩) (by show g < w3.heap.size; omega)).trans ((hb3.cell (p := ⟨g, 0, none⟩) hgl).trans (HC.out 0 (by omega))))).mono fun e w' h => by
    obtain ⟨h1, h2, h3, h4⟩ := h
    exact ⟨h1, _, _, h2, .inr ⟨rfl, by omega⟩, by omega, h3⟩)).mono ?_
  rintro e w4 ⟨rfl, off4, p4, h4, ho4, t4⟩
  have HB4 := hide (hb3.trans (t4.below (Nat.le_of_lt s3) (Nat.le_refl _)))
  have p5 := Pair.new w4 (x 0 : Int) 0
  have hb5 := (Below.refl w4.heap.size w4).alloc (Nat.le_refl _) (.cells #[.int .u8 (x 0 : Int), .int .u64 0] 27)
  have h5 := h4.below hb5 h4.lt
  have s5 : w4.heap.size < (w4.alloc (.cells #[.int .u8 (x 0 : Int), .int .u64 0] 27)).heap.size := by simp
  have HB5 := hide (HB4.out.trans (hb5.mono HB4.out.size))
  have HW5 := hide (HB2.out.trans (HB5.out.mono HB2.out.size))
  have q0 := p5.c0
  have q1 := p5.c1
  have HE := hide (err_any _ _ _ _ _ h5)
  have HD5 := hide h5
  have hF5 := hide (show F.answers (w4.alloc (.cells #[.int .u8 (x 0 : Int), .int .u64 0] 27)).tape from by rw [HW5.out.tape]; exact HF.out)
  clear p5 h5 h4 t4 hb5 hb3 hD3 hF3
  have ct0 := (HW5.out.cell (p := ⟨tb, toff, none⟩) htl).trans (HTC.out 0 (by omega))
  go_wp2_with (go_at_call 7; refine HE.out.mono ?_; rintro e w6 ⟨rfl, rfl⟩)
  refine (uint8_bad F w2.heap.size n cp off4 (some ⟨g, 0, none⟩) _ _ hF5.out HD5.out (.inl ⟨_, rfl⟩) (by omega) ho4).mono ?_
  rintro e w6 ⟨rfl, p6, h6, t6⟩
  have HB6 := hide (HB5.out.trans (t6.below (Nat.le_trans HB4.out.size (Nat.le_of_lt s5)) (Nat.le_refl _)))
  have HW6 := hide (HB2.out.trans (HB6.out.mono HB2.out.size))
  have HE6 := hide (err_any _ _ _ _ _ h6)
  clear t6 h6
  go_wp2_with (go_at_call 7; refine HE6.out.mono ?_; rintro e w7 ⟨rfl, rfl⟩)
  refine (equal_src _ _ _ _ _ (fun i => (x i : Int)) _ (HSB.out.below HB6.out (Nat.le_refl _)) (HS.out.below HW6.out (Nat.le_refl _))).mono ?_
  rintro e w7 ⟨rfl, rfl⟩
  go_wp2
  go_ret
  exact ⟨rfl, HW6.out⟩

set_option maxRecDepth 1000000 in
set_option maxHeartbeats 4000000 in
theorem read_no_deep (F : Interp) (a : Option Addr) (n cap : Nat) (x : Nat → Nat) (w : World) (hF : F.answers w.tape) (hx : ∀ i, x i < 256) (hs : Src w (.slice a n cap) (bs n fun i => (x i : Int))) (hn : n ≤ 1024) (hn6 : 6 ≤ n) (hfit : fits (x 0) (accB x 5) = false) (hd40 : 40 < x 0) :
    Calls Ybaf.prog 3 #[.slice a n cap] w fun e w' => e = .returned (.bool true) ∧ Below w.heap.size w w' := by
  have hd0 : decide ((1024 : Int) < (n : Int)) = false := by simp; omega
  have HS := hide hs
  have HF := hide hF
  have HX := hide hx
  clear hs hF hx
  obtain ⟨tb, toff, rfl, htl, htc⟩ := HS.out.at0 (by omega)
  have HTC := hide htc
  clear htc
  have hn0 : 0 < n := by omega
  have hd1 : decide ((1 : Int) ≤ (n : Int)) = true := by simp; omega
  have hd2 : decide ((6 : Int) ≤ (n : Int)) = true := by simp; omega
  have hpos : ∀ j, j < 5 → ([x 1, x 2, x 3, x 4, x 5].getD j 0) = x (0 + (0 + 1) + j) := fun j hj => by
    match j, hj with
    | 0, _ => rfl
    | 1, _ => rfl
    | 2, _ => rfl
    | 3, _ => rfl
    | 4, _ => rfl
  go_enter Ybaf.func3, Ybaf.ntmps3
  go_wp2_with (first
    | (at_builtin; refine wpList_append_src rfl _ _ rfl w.heap.size _ 0 [] rfl ?o1 (.slice (some ⟨tb, toff, none⟩) n cap) (bs n fun i => (x i : Int)) rfl ?o2 (fun u hu => bs_one hu) ?o3 ?o4 ?_))
  case o1 => exact World.ownsRow_nil _ _ _ _
  case o2 => exact HS.out
  case o3 => rw [bs_length]; omega
  case o4 => exact Nat.le_refl _
  intro v' w2 h2 h3
  rw [bs_length] at h2
  have HB2 := hide (show Below w.heap.size w w2 from HasBytes.of_grown h3 w.heap.size (fun k hk => by cases hk) (Nat.le_refl _))
  obtain ⟨b', cp, rfl, hsb⟩ := owns_src h2
  have HSB := hide hsb
  obtain ⟨g, cp', e', hgB, hgl, hcp, hcells⟩ := owns_form h2 (by omega)
  simp only [Value.slice.injEq] at e'
  obtain ⟨rfl, _, rfl⟩ := e'
  have HC := hide (show ∀ j, j < n → w2.cell? ⟨g, j, none⟩ = some (.int .u8 (x j : Int)) from fun j hj => hcells j _ (bs_at hj))
  have hgD : g ≠ w2.heap.size := by omega
  clear hcells
  clear h2 h3 hsb
  go_wp2_with fail
  refine (newDecoder _ _ _ w2).mono ?_
  rintro e w3 ⟨rfl, rfl⟩
  have hb3 := (Below.refl w2.heap.size w2).alloc (Nat.le_refl _) (.cells #[.slice (some ⟨g, 0, none⟩) n cp, .int .i64 0, .nilIface] 38)
  have hD3 : Dec (w2.alloc (.cells #[.slice (some ⟨g, 0, none⟩) n cp, .int .i64 0, .nilIface] 38)) w2.heap.size (.slice (some ⟨g, 0, none⟩) n cp) 0 .nilIface := Go.Deep.blk_alloc_new _ _
  have s3 : w2.heap.size < (w2.alloc (.cells #[.slice (some ⟨g, 0, none⟩) n cp, .int .i64 0, .nilIface] 38)).heap.size := by simp
  generalize w2.alloc (.cells #[.slice (some ⟨g, 0, none⟩) n cp, .int .i64 0, .nilIface] 38) = w3 at *
  have hF3 : F.answers w3.tape := by rw [hb3.tape, HB2.out.tape]; exact HF.out
  go_wp2_with fail
  refine (readPosition_no F w2.heap.size g 0 n cp 0 (x 0) (x 1) (x 2) (x 3) (x 4) (x 5) (accB x 5) w3 hF3 hD3 (by omega) hcp (by omega) hgD (HX.out 0) (HX.out 1) (HX.out 2) (HX.out 3) (HX.out 4) (HX.out 5) (accB_five x) hfit ((hb3.cell (p := ⟨g, 0, none⟩) hgl).trans (HC.out 0 (by omega))) (fun j hj => by
    rw [hpos j hj]
    exact (hb3.cell (p := ⟨g, 0 + (0 + 1) + j, none⟩) hgl).trans (HC.out _ (by omega)))).mono ?_
  rintro e w4 ⟨rfl, p4, h4, t4⟩
  have HB4 := hide (hb3.trans (t4.below (Nat.le_of_lt s3) (Nat.le_refl _)))
  have p5 := Pair.new w4 (x 0 : Int) (accB x 5 : Int)
  have hb5 := (Below.refl w4.heap.size w4).alloc (Nat.le_refl _) (.cells #[.int .u8 (x 0 : Int), .int .u64 (accB x 5 : Int)] 27)
  have h5 := h4.below hb5 h4.lt
  have s5 : w4.heap.size < (w4.alloc (.cells #[.int .u8 (x 0 : Int), .int .u64 (accB x 5 : Int)] 27)).heap.size := by simp
  have HB5 := hide (HB4.out.trans (hb5.mono HB4.out.size))
  have HW5 := hide (HB2.out.trans (HB5.out.mono HB2.out.size))
  have q0 := p5.c0
  have q1 := p5.c1
  have HE := hide (err_any _ _ _ _ _ h5)
  have HD5 := hide h5
  have hF5 := hide (show F.answers (w4.alloc (.cells #[.int .u8 (x 0 : Int), .int .u64 (accB x 5 : Int)] 27)).tape from by rw [HW5.out.tape]; exact HF.out)
  clear p5 h5 h4 t4 hb5 hb3 hD3 hF3
  have ct0 := (HW5.out.cell (p := ⟨tb, toff, none⟩) htl).trans (HTC.out 0 (by omega))
  have HL := hide (fun j (hj : j < n) => (HW5.out.cell (p := ⟨tb, toff + j, none⟩) htl).trans (HTC.out j hj))
  go_wp2_with fail
  refine read_loop tb toff n cap x _ _ (by omega) (by omega) HX.out HL.out ?_
  intro u9 u29 u30 u31 u32 u33 u34 u35 u36 u37 u38 u39 u40
  have hacc := accB_lt x HX.out 5
  have hx0 := HX.out 0
  have hd3 : decide ((x 0 : Int) ≤ 40) = false := by simp; omega
  obtain ⟨off4, ho4'⟩ : ∃ o, o = 0 + 6 := ⟨_, rfl⟩
  rw [← ho4'] at HD5
  have ho4 : off4 ≤ n := by omega
  clear hpos HL HC
  generalize hAq : accB x 5 = A at *
  generalize hDq : x 0 = dd at *

  go_wp2_with (go_at_call 7; refine HE.out.mono ?_; rintro e w6 ⟨rfl, rfl⟩)
  refine (uint8_bad F w2.heap.size n cp off4 (some ⟨g, 0, none⟩) _ _ hF5.out HD5.out (.inl ⟨_, rfl⟩) (by omega) ho4).mono ?_
  rintro e w6 ⟨rfl, p6, h6, t6⟩
  have HB6 := hide (HB5.out.trans (t6.below (Nat.le_trans HB4.out.size (Nat.le_of_lt s5)) (Nat.le_refl _)))
  have HW6 := hide (HB2.out.trans (HB6.out.mono HB2.out.size))
  have HE6 := hide (err_any _ _ _ _ _ h6)
  clear t6 h6
  go_wp2_with (go_at_call 7; refine HE6.out.mono ?_; rintro e w7 ⟨rfl, rfl⟩)
  refine (equal_src _ _ _ _ _ (fun i => (x i : Int)) _ (HSB.out.below HB6.out (Nat.le_refl _)) (HS.out.below HW6.out (Nat.le_refl _))).mono ?_
  rintro e w7 ⟨rfl, rfl⟩
  go_wp2
  go_ret
  exact ⟨rfl, HW6.out⟩

set_option maxRecDepth 1000000 in
set_option maxHeartbeats 4000000 in
theorem read_no (F : Interp) (a : Option Addr) (n cap : Nat) (x : Nat → Nat) (w : World) (hF : F.answers w.tape) (hx : ∀ i, x i < 256) (hs : Src w (.slice a n cap) (bs n fun i => (x i : Int))) (hn : n ≤ 1024) (hn6 : 6 ≤ n) (hfit : fits (x 0) (accB x 5) = false) (hd40 : x 0 ≤ 40) :
    Calls Ybaf.prog 3 #[.slice a n cap] w fun e w' => e = .returned (.bool true) ∧ Below w.heap.size w w' := by
  have hd0 : decide ((1024 : Int) < (n : Int)) = false := by simp; omega
  have HS := hide hs
  have HF := hide hF
  have HX := hide hx
  clear hs hF hx
  obtain ⟨tb, toff, rfl, htl, htc⟩ := HS.out.at0 (by omega)
  have HTC := hide htc
  clear htc
  have hn0 : 0 < n := by omega
  have hd1 : decide ((1 : Int) ≤ (n : Int)) = true := by simp; omega
  have hd2 : decide ((6 : Int) ≤ (n : Int)) = true := by simp; omega
  have hpos : ∀ j, j < 5 → ([x 1, x 2, x 3, x 4, x 5].getD j 0) = x (0 + (0 + 1) + j) := fun j hj => by
    match j, hj with
    | 0, _ => rfl
    | 1, _ => rfl
    | 2, _ => rfl
    | 3, _ => rfl
    | 4, _ => rfl
  go_enter Ybaf.func3, Ybaf.ntmps3
  go_wp2_with (first
    | (at_builtin; refine wpList_append_src rfl _ _ rfl w.heap.size _ 0 [] rfl ?o1 (.slice (some ⟨tb, toff, none⟩) n cap) (bs n fun i => (x i : Int)) rfl ?o2 (fun u hu => bs_one hu) ?o3 ?o4 ?_))
  case o1 => exact World.ownsRow_nil _ _ _ _
  case o2 => exact HS.out
  case o3 => rw [bs_length]; omega
  case o4 => exact Nat.le_refl _
  intro v' w2 h2 h3
  rw [bs_length] at h2
  have HB2 := hide (show Below w.heap.size w w2 from HasBytes.of_grown h3 w.heap.size (fun k hk => by cases hk) (Nat.le_refl _))
  obtain ⟨b', cp, rfl, hsb⟩ := owns_src h2
  have HSB := hide hsb
  obtain ⟨g, cp', e', hgB, hgl, hcp, hcells⟩ := owns_form h2 (by omega)
  simp only [Value.slice.injEq] at e'
  obtain ⟨rfl, _, rfl⟩ := e'
  have HC := hide (show ∀ j, j < n → w2.cell? ⟨g, j, none⟩ = some (.int .u8 (x j : Int)) from fun j hj => hcells j _ (bs_at hj))
  have hgD : g ≠ w2.heap.size := by omega
  clear hcells
  clear h2 h3 hsb
  go_wp2_with fail
  refine (newDecoder _ _ _ w2).mono ?_
  rintro e w3 ⟨rfl, rfl⟩
  have hb3 := (Below.refl w2.heap.size w2).alloc (Nat.le_refl _) (.cells #[.slice (some ⟨g, 0, none⟩) n cp, .int .i64 0, .nilIface] 38)
  have hD3 : Dec (w2.alloc (.cells #[.slice (some ⟨g, 0, none⟩) n cp, .int .i64 0, .nilIface] 38)) w2.heap.size (.slice (some ⟨g, 0, none⟩) n cp) 0 .nilIface := Go.Deep.blk_alloc_new _ _
  have s3 : w2.heap.size < (w2.alloc (.cells #[.slice (some ⟨g, 0, none⟩) n cp, .int .i64 0, .nilIface] 38)).heap.size := by simp
  generalize w2.alloc (.cells #[.slice (some ⟨g, 0, none⟩) n cp, .int .i64 0, .nilIface] 38) = w3 at *
  have hF3 : F.answers w3.tape := by rw [hb3.tape, HB2.out.tape]; exact HF.out
  go_wp2_with fail
  refine (readPosition_no F w2.heap.size g 0 n cp 0 (x 0) (x 1) (x 2) (x 3) (x 4) (x 5) (accB x 5) w3 hF3 hD3 (by omega) hcp (by omega) hgD (HX.out 0) (HX.out 1) (HX.out 2) (HX.out 3) (HX.out 4) (HX.out 5) (accB_five x) hfit ((hb3.cell (p := ⟨g, 0, none⟩) hgl).trans (HC.out 0 (by omega))) (fun j hj => by
    rw [hpos j hj]
    exact (hb3.cell (p := ⟨g, 0 + (0 + 1) + j, none⟩) hgl).trans (HC.out _ (by omega)))).mono ?_
  rintro e w4 ⟨rfl, p4, h4, t4⟩
  have HB4 := hide (hb3.trans (t4.below (Nat.le_of_lt s3) (Nat.le_refl _)))
  have p5 := Pair.new w4 (x 0 : Int) (accB x 5 : Int)
  have hb5 := (Below.refl w4.heap.size w4).alloc (Nat.le_refl _) (.cells #[.int .u8 (x 0 : Int), .int .u64 (accB x 5 : Int)] 27)
  have h5 := h4.below hb5 h4.lt
  have s5 : w4.heap.size < (w4.alloc (.cells #[.int .u8 (x 0 : Int), .int .u64 (accB x 5 : Int)] 27)).heap.size := by simp
  have HB5 := hide (HB4.out.trans (hb5.mono HB4.out.size))
  have HW5 := hide (HB2.out.trans (HB5.out.mono HB2.out.size))
  have q0 := p5.c0
  have q1 := p5.c1
  have HE := hide (err_any _ _ _ _ _ h5)
  have HD5 := hide h5
  have hF5 := hide (show F.answers (w4.alloc (.cells #[.int .u8 (x 0 : Int), .int .u64 (accB x 5 : Int)] 27)).tape from by rw [HW5.out.tape]; exact HF.out)
  clear p5 h5 h4 t4 hb5 hb3 hD3 hF3
  have ct0 := (HW5.out.cell (p := ⟨tb, toff, none⟩) htl).trans (HTC.out 0 (by omega))
  have HL := hide (fun j (hj : j < n) => (HW5.out.cell (p := ⟨tb, toff + j, none⟩) htl).trans (HTC.out j hj))
  go_wp2_with fail
  refine read_loop tb toff n cap x _ _ (by omega) (by omega) HX.out HL.out ?_
  intro u9 u29 u30 u31 u32 u33 u34 u35 u36 u37 u38 u39 u40
  have hacc := accB_lt x HX.out 5
  have hx0 := HX.out 0
  have hd3 : decide ((x 0 : Int) ≤ 40) = true := by simp; omega
  obtain ⟨P, hwr, hd4⟩ := shl_dec (x 0) (accB x 5) hd40
  rw [hfit] at hd4
  obtain ⟨off4, ho4'⟩ : ∃ o, o = 0 + 6 := ⟨_, rfl⟩
  rw [← ho4'] at HD5
  have ho4 : off4 ≤ n := by omega
  clear hpos HL HC
  generalize hAq : accB x 5 = A at *
  generalize hDq : x 0 = dd at *

  go_wp2_with (go_at_call 7; refine HE.out.mono ?_; rintro e w6 ⟨rfl, rfl⟩)
  refine (uint8_bad F w2.heap.size n cp off4 (some ⟨g, 0, none⟩) _ _ hF5.out HD5.out (.inl ⟨_, rfl⟩) (by omega) ho4).mono ?_
  rintro e w6 ⟨rfl, p6, h6, t6⟩
  have HB6 := hide (HB5.out.trans (t6.below (Nat.le_trans HB4.out.size (Nat.le_of_lt s5)) (Nat.le_refl _)))
  have HW6 := hide (HB2.out.trans (HB6.out.mono HB2.out.size))
  have HE6 := hide (err_any _ _ _ _ _ h6)
  clear t6 h6
  go_wp2_with (go_at_call 7; refine HE6.out.mono ?_; rintro e w7 ⟨rfl, rfl⟩)
  refine (equal_src _ _ _ _ _ (fun i => (x i : Int)) _ (HSB.out.below HB6.out (Nat.le_refl _)) (HS.out.below HW6.out (Nat.le_refl _))).mono ?_
  rintro e w7 ⟨rfl, rfl⟩
  go_wp2
  go_ret
  exact ⟨rfl, HW6.out⟩

set_option maxRecDepth 1000000 in
set_option maxHeartbeats 4000000 in
theorem read_yes (F : Interp) (a : Option Addr) (n cap : Nat) (x : Nat → Nat) (w : World) (hF : F.answers w.tape) (hx : ∀ i, x i < 256) (hs : Src w (.slice a n cap) (bs n fun i => (x i : Int))) (hn : n ≤ 1024) (hn6 : 6 ≤ n) (hfit : fits (x 0) (accB x 5) = true) (hn7 : 6 < n) :
    Calls Ybaf.prog 3 #[.slice a n cap] w fun e w' => e = .returned (.bool true) ∧ Below w.heap.size w w' := by
  have hd0 : decide ((1024 : Int) < (n : Int)) = false := by simp; omega
  have HS := hide hs
  have HF := hide hF
  have HX := hide hx
  clear hs hF hx
  obtain ⟨tb, toff, rfl, htl, htc⟩ := HS.out.at0 (by omega)
  have HTC := hide htc
  clear htc
  have hn0 : 0 < n := by omega
  have hd1 : decide ((1 : Int) ≤ (n : Int)) = true := by simp; omega
  have hd2 : decide ((6 : Int) ≤ (n : Int)) = true := by simp; omega
  have hpos : ∀ j, j < 5 → ([x 1, x 2, x 3, x 4, x 5].getD j 0) = x (0 + (0 + 1) + j) := fun j hj => by
    match j, hj with
    | 0, _ => rfl
    | 1, _ => rfl
    | 2, _ => rfl
    | 3, _ => rfl
    | 4, _ => rfl
  go_enter Ybaf.func3, Ybaf.ntmps3
  go_wp2_with (first
    | (at_builtin; refine wpList_append_src rfl _ _ rfl w.heap.size _ 0 [] rfl ?o1 (.slice (some ⟨tb, toff, none⟩) n cap) (bs n fun i => (x i : Int)) rfl ?o2 (fun u hu => bs_one hu) ?o3 ?o4 ?_))
  case o1 => exact World.ownsRow_nil _ _ _ _
  case o2 => exact HS.out
  case o3 => rw [bs_length]; omega
  case o4 => exact Nat.le_refl _
  intro v' w2 h2 h3
  rw [bs_length] at h2
  have HB2 := hide (show Below w.heap.size w w2 from HasBytes.of_grown h3 w.heap.size (fun k hk => by cases hk) (Nat.le_refl _))
  obtain ⟨b', cp, rfl, hsb⟩ := owns_src h2
  have HSB := hide hsb
  obtain ⟨g, cp', e', hgB, hgl, hcp, hcells⟩ := owns_form h2 (by omega)
  simp only [Value.slice.injEq] at e'
  obtain ⟨rfl, _, rfl⟩ := e'
  have HC := hide (show ∀ j, j < n → w2.cell? ⟨g, j, none⟩ = some (.int .u8 (x j : Int)) from fun j hj => hcells j _ (bs_at hj))
  have hgD : g ≠ w2.heap.size := by omega
  clear hcells
  clear h2 h3 hsb
  go_wp2_with fail
  refine (newDecoder _ _ _ w2).mono ?_
  rintro e w3 ⟨rfl, rfl⟩
  have hb3 := (Below.refl w2.heap.size w2).alloc (Nat.le_refl _) (.cells #[.slice (some ⟨g, 0, none⟩) n cp, .int .i64 0, .nilIface] 38)
  have hD3 : Dec (w2.alloc (.cells #[.slice (some ⟨g, 0, none⟩) n cp, .int .i64 0, .nilIface] 38)) w2.heap.size (.slice (some ⟨g, 0, none⟩) n cp) 0 .nilIface := Go.Deep.blk_alloc_new _ _
  have s3 : w2.heap.size < (w2.alloc (.cells #[.slice (some ⟨g, 0, none⟩) n cp, .int .i64 0, .nilIface] 38)).heap.size := by simp
  generalize w2.alloc (.cells #[.slice (some ⟨g, 0, none⟩) n cp, .int .i64 0, .nilIface] 38) = w3 at *
  have hF3 : F.answers w3.tape := by rw [hb3.tape, HB2.out.tape]; exact HF.out
  go_wp2_with fail
  refine (readPosition_ok w2.heap.size g 0 n cp 0 (x 0) (x 1) (x 2) (x 3) (x 4) (x 5) (accB x 5) w3 hD3 (by omega) hcp (by omega) hgD (HX.out 0) (HX.out 1) (HX.out 2) (HX.out 3) (HX.out 4) (HX.out 5) (accB_five x) hfit ((hb3.cell (p := ⟨g, 0, none⟩) hgl).trans (HC.out 0 (by omega))) (fun j hj => by
    rw [hpos j hj]
    exact (hb3.cell (p := ⟨g, 0 + (0 + 1) + j, none⟩) hgl).trans (HC.out _ (by omega)))).mono ?_
  rintro e w4 ⟨rfl, h4, t4⟩
  have HB4 := hide (hb3.trans (t4.below (Nat.le_of_lt s3) (Nat.le_refl _)))
  have p5 := Pair.new w4 (x 0 : Int) (accB x 5 : Int)
  have hb5 := (Below.refl w4.heap.size w4).alloc (Nat.le_refl _) (.cells #[.int .u8 (x 0 : Int), .int .u64 (accB x 5 : Int)] 27)
  have h5 := h4.below hb5 h4.lt
  have s5 : w4.heap.size < (w4.alloc (.cells #[.int .u8 (x 0 : Int), .int .u64 (accB x 5 : Int)] 27)).heap.size := by simp
  have HB5 := hide (HB4.out.trans (hb5.mono HB4.out.size))
  have HW5 := hide (HB2.out.trans (HB5.out.mono HB2.out.size))
  have q0 := p5.c0
  have q1 := p5.c1
  have HE := hide (err_any _ _ _ _ _ h5)
  have HD5 := hide h5
  have hF5 := hide (show F.answers (w4.alloc (.cells #[.int .u8 (x 0 : Int), .int .u64 (accB x 5 : Int)] 27)).tape from by rw [HW5.out.tape]; exact HF.out)
  clear p5 h5 h4 t4 hb5 hb3 hD3 hF3
  have ct0 := (HW5.out.cell (p := ⟨tb, toff, none⟩) htl).trans (HTC.out 0 (by omega))
  have HL := hide (fun j (hj : j < n) => (HW5.out.cell (p := ⟨tb, toff + j, none⟩) htl).trans (HTC.out j hj))
  go_wp2_with fail
  refine read_loop tb toff n cap x _ _ (by omega) (by omega) HX.out HL.out ?_
  intro u9 u29 u30 u31 u32 u33 u34 u35 u36 u37 u38 u39 u40
  have hacc := accB_lt x HX.out 5
  have hx0 := HX.out 0
  have hd40 : x 0 ≤ 40 := by
    have h1 := hfit
    unfold fits at h1
    rw [Bool.and_eq_true] at h1
    exact of_decide_eq_true h1.1
  have hd3 : decide ((x 0 : Int) ≤ 40) = true := by simp; omega
  obtain ⟨P, hwr, hd4⟩ := shl_dec (x 0) (accB x 5) hd40
  rw [hfit] at hd4
  have hd5 : decide ((6 : Int) < (n : Int)) = true := by simp; omega
  have hn7' : (6 : Int) < (n : Int) := by omega
  have HU := hide (uint8_ok w2.heap.size g 0 n cp (0 + 6) (x 6) _ HD5.out (by omega) hcp (by omega) hgD ((HB5.out.cell (p := ⟨g, 6, none⟩) hgl).trans (HC.out 6 (by omega))))
  have ct6 := HTC.out 6 (by omega)
  clear hpos HL
  generalize hAq : accB x 5 = A at *
  generalize hDq : x 0 = dd at *
  generalize hEq : x 6 = ee at *
  go_wp2_with (go_at_call 7; refine HE.out.mono ?_; rintro e w6 ⟨rfl, rfl⟩)
  refine HU.out.mono ?_
  rintro e w6 ⟨rfl, h6, t6, _⟩
  have HB6 := hide (HB5.out.trans (t6.below (Nat.le_trans HB4.out.size (Nat.le_of_lt s5)) (Nat.le_refl _)))
  have HW6 := hide (HB2.out.trans (HB6.out.mono HB2.out.size))
  have ct7 := (HW6.out.cell (p := ⟨tb, toff + 6, none⟩) htl).trans ct6
  have HE6 := hide (err_any _ _ _ _ _ h6)
  clear t6 h6 ct6
  go_wp2_with (go_at_call 7; refine HE6.out.mono ?_; rintro e w7 ⟨rfl, rfl⟩)
  refine (equal_src _ _ _ _ _ (fun i => (x i : Int)) _ (HSB.out.below HB6.out (Nat.le_refl _)) (HS.out.below HW6.out (Nat.le_refl _))).mono ?_
  rintro e w7 ⟨rfl, rfl⟩
  go_wp2
  go_ret
  exact ⟨rfl, HW6.out⟩

set_option maxRecDepth 1000000 in
set_option maxHeartbeats 4000000 in
theorem read_six (F : Interp) (a : Option Addr) (n cap : Nat) (x : Nat → Nat) (w : World) (hF : F.answers w.tape) (hx : ∀ i, x i < 256) (hs : Src w (.slice a n cap) (bs n fun i => (x i : Int))) (hn : n ≤ 1024) (hn6 : 6 ≤ n) (hfit : fits (x 0) (accB x 5) = true) (hn7 : n < 7) :
    Calls Ybaf.prog 3 #[.slice a n cap] w fun e w' => e = .returned (.bool true) ∧ Below w.heap.size w w' := by
  have hd0 : decide ((1024 : Int) < (n : Int)) = false := by simp; omega
  have HS := hide hs
  have HF := hide hF
  have HX := hide hx
  clear hs hF hx
  obtain ⟨tb, toff, rfl, htl, htc⟩ := HS.out.at0 (by omega)
  have HTC := hide htc
  clear htc
  have hn0 : 0 < n := by omega
  have hd1 : decide ((1 : Int) ≤ (n : Int)) = true := by simp; omega
  have hd2 : decide ((6 : Int) ≤ (n : Int)) = true := by simp; omega
  have hpos : ∀ j, j < 5 → ([x 1, x 2, x 3, x 4, x 5].getD j 0) = x (0 + (0 + 1) + j) := fun j hj => by
    match j, hj with
    | 0, _ => rfl
    | 1, _ => rfl
    | 2, _ => rfl
    | 3, _ => rfl
    | 4, _ => rfl
  go_enter Ybaf.func3, Ybaf.ntmps3
  go_wp2_with (first
    | (at_builtin; refine wpList_append_src rfl _ _ rfl w.heap.size _ 0 [] rfl ?o1 (.slice (some ⟨tb, toff, none⟩) n cap) (bs n fun i => (x i : Int)) rfl ?o2 (fun u hu => bs_one hu) ?o3 ?o4 ?_))
  case o1 => exact World.ownsRow_nil _ _ _ _
  case o2 => exact HS.out
  case o3 => rw [bs_length]; omega
  case o4 => exact Nat.le_refl _
  intro v' w2 h2 h3
  rw [bs_length] at h2
  have HB2 := hide (show Below w.heap.size w w2 from HasBytes.of_grown h3 w.heap.size (fun k hk => by cases hk) (Nat.le_refl _))
  obtain ⟨b', cp, rfl, hsb⟩ := owns_src h2
  have HSB := hide hsb
  obtain ⟨g, cp', e', hgB, hgl, hcp, hcells⟩ := owns_form h2 (by omega)
  simp only [Value.slice.injEq] at e'
  obtain ⟨rfl, _, rfl⟩ := e'
  have HC := hide (show ∀ j, j < n → w2.cell? ⟨g, j, none⟩ = some (.int .u8 (x j : Int)) from fun j hj => hcells j _ (bs_at hj))
  have hgD : g ≠ w2.heap.size := by omega
  clear hcells
  clear h2 h3 hsb
  go_wp2_with fail
  refine (newDecoder _ _ _ w2).mono ?_
  rintro e w3 ⟨rfl, rfl⟩
  have hb3 := (Below.refl w2.heap.size w2).alloc (Nat.le_refl _) (.cells #[.slice (some ⟨g, 0, none⟩) n cp, .int .i64 0, .nilIface] 38)
  have hD3 : Dec (w2.alloc (.cells #[.slice (some ⟨g, 0, none⟩) n cp, .int .i64 0, .nilIface] 38)) w2.heap.size (.slice (some ⟨g, 0, none⟩) n cp) 0 .nilIface := Go.Deep.blk_alloc_new _ _
  have s3 : w2.heap.size < (w2.alloc (.cells #[.slice (some ⟨g, 0, none⟩) n cp, .int .i64 0, .nilIface] 38)).heap.size := by simp
  generalize w2.alloc (.cells #[.slice (some ⟨g, 0, none⟩) n cp, .int .i64 0, .nilIface] 38) = w3 at *
  have hF3 : F.answers w3.tape := by rw [hb3.tape, HB2.out.tape]; exact HF.out
  go_wp2_with fail
  refine (readPosition_ok w2.heap.size g 0 n cp 0 (x 0) (x 1) (x 2) (x 3) (x 4) (x 5) (accB x 5) w3 hD3 (by omega) hcp (by omega) hgD (HX.out 0) (HX.out 1) (HX.out 2) (HX.out 3) (HX.out 4) (HX.out 5) (accB_five x) hfit ((hb3.cell (p := ⟨g, 0, none⟩) hgl).trans (HC.out 0 (by omega))) (fun j hj => by
    rw [hpos j hj]
    exact (hb3.cell (p := ⟨g, 0 + (0 + 1) + j, none⟩) hgl).trans (HC.out _ (by omega)))).mono ?_
  rintro e w4 ⟨rfl, h4, t4⟩
  have HB4 := hide (hb3.trans (t4.below (Nat.le_of_lt s3) (Nat.le_refl _)))
  have p5 := Pair.new w4 (x 0 : Int) (accB x 5 : Int)
  have hb5 := (Below.refl w4.heap.size w4).alloc (Nat.le_refl _) (.cells #[.int .u8 (x 0 : Int), .int .u64 (accB x 5 : Int)] 27)
  have h5 := h4.below hb5 h4.lt
  have s5 : w4.heap.size < (w4.alloc (.cells #[.int .u8 (x 0 : Int), .int .u64 (accB x 5 : Int)] 27)).heap.size := by simp
  have HB5 := hide (HB4.out.trans (hb5.mono HB4.out.size))
  have HW5 := hide (HB2.out.trans (HB5.out.mono HB2.out.size))
  have q0 := p5.c0
  have q1 := p5.c1
  have HE := hide (err_any _ _ _ _ _ h5)
  have HD5 := hide h5
  have hF5 := hide (show F.answers (w4.alloc (.cells #[.int .u8 (x 0 : Int), .int .u64 (accB x 5 : Int)] 27)).tape from by rw [HW5.out.tape]; exact HF.out)
  clear p5 h5 h4 t4 hb5 hb3 hD3 hF3
  have ct0 := (HW5.out.cell (p := ⟨tb, toff, none⟩) htl).trans (HTC.out 0 (by omega))
  have HL := hide (fun j (hj : j < n) => (HW5.out.cell (p := ⟨tb, toff + j, none⟩) htl).trans (HTC.out j hj))
  go_wp2_with fail
  refine read_loop tb toff n cap x _ _ (by omega) (by omega) HX.out HL.out ?_
  intro u9 u29 u30 u31 u32 u33 u34 u35 u36 u37 u38 u39 u40
  have hacc := accB_lt x HX.out 5
  have hx0 := HX.out 0
  have hd40 : x 0 ≤ 40 := by
    have h1 := hfit
    unfold fits at h1
    rw [Bool.and_eq_true] at h1
    exact of_decide_eq_true h1.1
  have hd3 : decide ((x 0 : Int) ≤ 40) = true := by simp; omega
  obtain ⟨P, hwr, hd4⟩ := shl_dec (x 0) (accB x 5) hd40
  rw [hfit] at hd4
  have hd5 : decide ((6 : Int) < (n : Int)) = false := by simp; omega
  have HU := hide (uint8_bad F w2.heap.size n cp (0 + 6) (some ⟨g, 0, none⟩) _ _ hF5.out HD5.out (.inr ⟨rfl, by omega⟩) (by omega) (by omega))
  clear hpos HL
  generalize hAq : accB x 5 = A at *
  generalize hDq : x 0 = dd at *
  go_wp2_with (go_at_call 7; refine HE.out.mono ?_; rintro e w6 ⟨rfl, rfl⟩)
  refine HU.out.mono ?_
  rintro e w6 ⟨rfl, p6, h6, t6⟩
  have HB6 := hide (HB5.out.trans (t6.below (Nat.le_trans HB4.out.size (Nat.le_of_lt s5)) (Nat.le_refl _)))
  have HW6 := hide (HB2.out.trans (HB6.out.mono HB2.out.size))
  clear t6 h6
  go_wp2_with fail
  refine (equal_src _ _ _ _ _ (fun i => (x i : Int)) _ (HSB.out.below HB6.out (Nat.le_refl _)) (HS.out.below HW6.out (Nat.le_refl _))).mono ?_
  rintro e w7 ⟨rfl, rfl⟩
  go_wp2
  go_ret
  exact ⟨rfl, HW6.out⟩

end Go.Proofs.YbulkbfiyFmt
