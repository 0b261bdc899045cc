/- WRITTEN BY PROGRAM (gen17.py): the second loop of (*orderTrial).runs. -/
import Derived.Test.YbulkbfhwFollows
import Derived.Test.YbulkbfhwOwn
namespace Go.Proofs.Ybulkbfhw
open Go.RowKit
attribute [local go_sem ↓] Go.wp_at_zero Go.wp_at_succ
set_option linter.unusedVariables false

set_option maxRecDepth 1000000 in
set_option maxHeartbeats 4000000 in
theorem rounds_loop {c0 c2 c10 c11 c12 c13 c14 c15 c16 c17 c18 c19 c20 c21 c22 c23 c24 c25 c26 c27 c28 c29 c30 c31 c32 c33 c34 c35 c36 c37 c38 c41 c42 c43 c44 c45 c46 c47 c48 c49 c50 c51 c52 c53 c54 c55 c56 c57 c58 c59 c60 c61 c62 c63 c64 c65 c66 c67 c68 c69 c70 c71 c72 c73 c74 c75 c76 c77 c78 c79 c80 c81 c82 c83 c84 c85 c86 c87 c88 c89 c90 c91 c92 c93 c94 : Value} (B Lv Nv Ev Fv Lb V T Sb K n : Nat) (ex : Int) (st lab : Nat → Int) (s : Nat) (w1 w : World) (Q : Exit → Act → World → Prop) (hS : Start st K ex lab n s) (hK0 : 0 < K) (hst0 : st 0 = 0) (hst : ∀ i, i < K → 0 ≤ st i) (hn : n ≤ 1024) (hK : K ≤ 2000) (hmono : ∀ a b, a < b → b < K → st a < st b) (hex : 0 ≤ ex ∧ ex ≤ 100) (hlab : ∀ i, i < n → 0 ≤ lab i ∧ lab i ≤ 100000) (hE : Env w1 B Lv Nv Ev Fv Lb V T Sb K n ex st lab) (hB : B ≤ w1.heap.size) (hb : Below B w1 w)
    (hQ : ∀ (u9 u10 u11 u12 u13 u14 u40 u41 u42 u43 u44 u45 u46 u47 u48 u49 u50 u51 u52 u53 u54 u55 u56 u57 u58 u59 u60 u61 u62 u63 u64 u65 u66 u67 u68 u69 u70 u71 u72 u73 u74 u75 u76 u77 u78 u79 u80 u81 u82 u83 u84 u85 u86 u87 u88 u89 u90 u91 u92 u93 : Value) (w' : World), HasRuns w' B u9 (runsTo st K ex lab n s n) → Below B w1 w' → Q (.exit 2) ⟨#[c0, (.pointer (some ⟨V, 0, none⟩)), c2, (.pointer (some ⟨Ev, 0, none⟩)), (.pointer (some ⟨Lv, 0, none⟩)), (.pointer (some ⟨Nv, 0, none⟩)), (.pointer (some ⟨Fv, 0, none⟩)), (.func (.func 14) #[] #[.pointer (some ⟨Lv, 0, none⟩), .pointer (some ⟨Nv, 0, none⟩), .pointer (some ⟨Ev, 0, none⟩), .pointer (some ⟨Fv, 0, none⟩)]), (.int .i64 (s : Int)), u9, u10, u11, u12, u13, u14, c15, c16, c17, c18, c19, c20, c21, c22, c23, c24, c25, c26, c27, c28, c29, c30, c31, c32, c33, c34, c35, c36, c37, c38, (.int .i64 (n : Int)), u40, u41, u42, u43, u44, u45, u46, u47, u48, u49, u50, u51, u52, u53, u54, u55, u56, u57, u58, u59, u60, u61, u62, u63, u64, u65, u66, u67, u68, u69, u70, u71, u72, u73, u74, u75, u76, u77, u78, u79, u80, u81, u82, u83, u84, u85, u86, u87, u88, u89, u90, u91, u92, u93, c94], []⟩ w') :
    Code.wp Yba.prog ((Yba.f6.body.bind (findBlock 2)).getD .skip) Q ⟨#[c0, (.pointer (some ⟨V, 0, none⟩)), c2, (.pointer (some ⟨Ev, 0, none⟩)), (.pointer (some ⟨Lv, 0, none⟩)), (.pointer (some ⟨Nv, 0, none⟩)), (.pointer (some ⟨Fv, 0, none⟩)), (.func (.func 14) #[] #[.pointer (some ⟨Lv, 0, none⟩), .pointer (some ⟨Nv, 0, none⟩), .pointer (some ⟨Ev, 0, none⟩), .pointer (some ⟨Fv, 0, none⟩)]), (.int .i64 (s : Int)), (.slice none 0 0), c10, c11, c12, c13, c14, c15, c16, c17, c18, c19, c20, c21, c22, c23, c24, c25, c26, c27, c28, c29, c30, c31, c32, c33, c34, c35, c36, c37, c38, (.int .i64 (n : Int)), (.int .i64 0), c41, c42, c43, c44, c45, c46, c47, c48, c49, c50, c51, c52, c53, c54, c55, c56, c57, c58, c59, c60, c61, c62, c63, c64, c65, c66, c67, c68, c69, c70, c71, c72, c73, c74, c75, c76, c77, c78, c79, c80, c81, c82, c83, c84, c85, c86, c87, c88, c89, c90, c91, c92, c93, c94], []⟩ w := by
  refine outOf ?_
  conv => arg 2; whnf
  go_wp2
  go_loopw [9, 40] (fun v i wr => ∃ k : Nat, k ≤ n ∧ i = .int .i64 k ∧ HasRuns wr B v (runsTo st K ex lab n s k) ∧ Below B w1 wr) (fun _ i _ => n - (intOf i).toNat)
  case atStart => exact ⟨0, by omega, rfl, World.ownsRow_nil _ _ _ _, hb⟩
  case round =>
    obtain ⟨k, hk, rfl, hr, hbr⟩ := hrel
    have hEr := hE.below hbr
    have hBr : B ≤ wr.heap.size := Nat.le_trans hB hbr.size
    by_cases hlt : k < n
    · have hn0 : 0 < n := by omega
      have hi : (s + k) % n < n := Nat.mod_lt _ hn0
      have hii : ((s : Int) + (k : Int)) % (n : Int) = (((s + k) % n : Nat) : Int) := by rw [Int.natCast_emod, Int.natCast_add]
      have hsn := hS.lt st K ex lab n hn0
      have hstep : runsTo st K ex lab n s (k + 1) = stepR st K ex lab n (runsTo st K ex lab n s k) ((s + k) % n) := rfl
      have hne := runs_ne st K ex lab n hS hn0 k
      have hRl := runsTo_length st K ex lab n s k
      generalize (s + k) % n = i at hi hii hstep hne
      have cl := hEr.cl
      have cn := hEr.cn
      have ce := hEr.ce
      have cf := hEr.cf
      have c1 := hEr.labs i hi
      have bl := hlab i hi
      have hiN : (i : Int) < (n : Int) := by omega
      have hnz : ((n : Int) == 0) = false := by simp; omega
      have HKy : Hid (∀ w', Below B w1 w' → Calls Yba.prog 11 #[.int .i32 (lab i - ex), .pointer (some ⟨V, 0, none⟩)] w' fun e w'' => e = .returned (.int .i64 (lastLE st (lab i - ex) K)) ∧ Below w'.heap.size w' w'') := fun w' hb => by
        have h := hE.below hb
        have := hb.size
        exact key_any V T Sb K st _ w' h.cs (by have := h.lt.2.1; omega) (by have := h.lt.2.2.1; omega) (by have := h.lt.2.2.2; omega) hK hmono
      have HFo : Hid (∀ w', Below B w1 w' → Calls Yba.prog 14 #[.int .i64 (i : Int), .pointer (some ⟨Lv, 0, none⟩), .pointer (some ⟨Nv, 0, none⟩), .pointer (some ⟨Ev, 0, none⟩), .pointer (some ⟨Fv, 0, none⟩)] w' fun e w'' => e = .returned (.bool (folB st K ex lab n i)) ∧ Below w'.heap.size w' w'') := fun w' hb => by
        have h := hE.below hb
        have := hb.size
        exact follows_any w'.heap.size Lv Nv Ev Fv Lb V T Sb K n ex st lab i w' (h.up (by omega)) (Nat.le_refl _) (by omega) hK hmono hex hlab hi
      have HB := hide hbr
      have HR := hide hr
      unfold stepR at hstep
      by_cases hcut : lab i < ex
      · rw [if_pos hcut] at hstep
        have HT := hide hstep
        generalize lab i = l at c1 bl hcut
        have hd : decide (l < ex) = true := by simp; omega
        clear hE hEr hbr hr hmono hlab hQ hb HKy HFo hstep hne hRl hS
        go_wp2
        go_quiet (fail)
        go_wp2
        go_roundw
        case rel => exact ⟨k + 1, by omega, by go_num, by rw [HT.out]; exact HR.out, below_drewN HB.out _⟩
        case measure => simp [intOf]; omega
      · rw [if_neg hcut] at hstep
        cases hf : folB st K ex lab n i with
        | true =>
          rw [hf] at HFo hstep
          rw [if_pos rfl] at hstep
          obtain ⟨R', ⟨kk, ff, ll⟩, hR⟩ : ∃ R' x, runsTo st K ex lab n s k = R' ++ [x] := by
            rcases List.eq_nil_or_concat (runsTo st K ex lab n s k) with e | ⟨L, b, e⟩
            · exact absurd e (hne hf)
            · exact ⟨L, b, by rw [e, List.concat_eq_append]⟩
          rw [hR] at HR hstep hRl
          rw [bump_concat] at hstep
          obtain ⟨g, cap, rfl, hgB, hgl, hgc, hgm, _⟩ := HR.out.form (by simp)
          have HT := hide hstep
          have hml : R'.length ≤ 1024 := by simp at hRl; omega
          simp only [List.length_append, List.length_cons, List.length_nil, Nat.zero_add] at HR hgc
          have hv : ∃ m, m = R'.length := ⟨_, rfl⟩
          have HKv : Hid (∃ kv : Int, lastLE st (lab i - ex) K = kv) := ⟨_, rfl⟩
          generalize lastLE st (lab i - ex) K = ky at HKy
          generalize lab i = l at c1 bl hcut HKy
          have hle : ex ≤ l := by omega
          have hd : decide (l < ex) = false := by simp; omega
          have v1 : IntKind.i32.wrap (l - ex) = l - ex := IntWalk.i32_in _ ⟨by omega, by omega⟩
          clear hE hEr hbr hr hmono hlab hQ hb hstep hne hRl hS hR hf hv
          go_wp2
          go_quiet (fail)
          go_wp2
          go_quiet (fail)
          go_wp2_with fail
          refine (HKy.out _ (below_drewN HB.out _)).mono ?_
          rintro e w2 ⟨rfl, hb2⟩
          have HB2 := hide ((below_drewN HB.out _).trans (hb2.mono (by simp; omega)))
          have HR2 := hide ((HR.out.drewN _).below hb2)
          clear hb2 HKy HR HB
          go_wp2_with fail
          refine (HFo.out _ HB2.out).mono ?_
          rintro e w3 ⟨rfl, hb3⟩
          have HB3 := hide (HB2.out.trans (hb3.mono (by have := HB2.out.size; omega)))
          have HR3 := hide (HR2.out.below hb3)
          clear hb3 HFo HR2 HB2
          obtain ⟨x1, z1, hx⟩ := HR3.out.bump
          have HX := hide hx
          clear hx
          generalize hm : R'.length = m at x1 z1 hml hgc ⊢
          go_wp2
          go_roundw
          case rel => exact ⟨k + 1, by omega, by go_num, by rw [HT.out, IntWalk.i32_left]; subst hm; exact HX.out _, HB3.out.setCell (by show B ≤ g; exact hgB) _⟩
          case measure => simp [intOf]; omega
        | false =>
          rw [hf] at HFo hstep
          rw [if_neg (by simp)] at hstep
          have hlo := lastLE_lo st (lab i - ex) K
          have hge := lastLE_nonneg st (lab i - ex) K hK0 (by have := hst0; omega)
          have hat := lastLE_at st (lab i - ex) K hge
          unfold keyR placeR at hstep
          obtain ⟨ky, hky⟩ : ∃ ky : Nat, lastLE st (lab i - ex) K = (ky : Int) := ⟨(lastLE st (lab i - ex) K).toNat, by omega⟩
          rw [hky] at HKy hstep hlo hat
          simp only [Int.toNat_natCast] at hstep hat
          have hkK : ky < K := by omega
          have c5 := hE.cs.s ky hkK
          have hs0 := hst ky hkK
          have HT := hide hstep
          have HE := hide hE
          have hkK2 : (ky : Int) < (K : Int) := by omega
          obtain ⟨va, vcap, rfl⟩ := HR.out.len
          have HL := hide hRl
          generalize runsTo st K ex lab n s k = R at HR HT HL ⊢
          generalize lab i = l at c1 bl hcut HKy hat HT
          generalize st ky = sk at c5 hs0 hat HT
          have hle : ex ≤ l := by omega
          have hd : decide (l < ex) = false := by simp; omega
          have v1 : IntKind.i32.wrap (l - ex) = l - ex := IntWalk.i32_in _ ⟨by omega, by omega⟩
          obtain ⟨i0, hi0, hz0, hz1, hz2⟩ := info_parts info49
          clear hE hEr hbr hr hmono hlab hQ hb hstep hne hRl hS hf hky hge hst
          go_wp2
          go_quiet (fail)
          go_wp2
          go_quiet (fail)
          go_wp2_with fail
          refine (HKy.out _ (below_drewN HB.out _)).mono ?_
          rintro e w2 ⟨rfl, hb2⟩
          have HB2 := hide ((below_drewN HB.out _).trans (hb2.mono (by simp; omega)))
          have HR2 := hide ((HR.out.drewN _).below hb2)
          clear hb2 HKy HR HB
          go_wp2_with fail
          refine (HFo.out _ HB2.out).mono ?_
          rintro e w3 ⟨rfl, hb3⟩
          have HB3 := hide (HB2.out.trans (hb3.mono (by have := HB2.out.size; omega)))
          have HR3 := hide (HR2.out.below hb3)
          clear hb3 HFo HR2 HB2
          have hE3 := HE.out.below HB3.out
          have k1 := hE3.cs.v
          have k2 := hE3.cs.t
          have k3 : w3.cell? ⟨Sb, ky, none⟩ = some (.int .i32 sk) := (HB3.out.cell (p := ⟨Sb, ky, none⟩) HE.out.lt.2.2.2).trans c5
          clear hE3 HE c1 c5
          go_wp2_with (first
            | (at_builtin; refine wpList_append_own _ rfl _ _ 44 rfl B 49 i0 _ 3 16 Yba.underlying44 hi0 hz0 hz1 hz2 rfl (by decide) _ _ _ rfl (HR3.out.alloc _) ⟨w3.heap.size, 0, none⟩ 1 1 [.int .i64 (ky : Int), .int .i32 (l - ex - sk), .int .i32 (l - ex - sk + 1)] rfl rfl ?c1 ?c2 ?c3 ?c4 ?c5 ?_))
          case c1 =>
            intro j u hj
            match j, hj with
            | 0, hj => simp at hj; subst hj; simp [Addr.add]
            | 1, hj => simp at hj; subst hj; simp [Addr.add]
            | 2, hj => simp at hj; subst hj; simp [Addr.add]
          case c2 => intro u hu; simp at hu; rcases hu with rfl | rfl | rfl <;> rfl
          case c3 => have := HL.out; unfold maxLen; omega
          case c4 => have := HL.out; omega
          case c5 => have := HB3.out.size; simp; omega
          intro v' w4 hown hgrow _
          have HG : Hid (Below B w1 w4) := (HB3.out.alloc (by have := HB3.out.size; omega) _).grown hgrow (by have := HB3.out.size; simp; omega) (fun kk hkk => (HR3.out.lt kk hkk).1)
          have HO := hide (HasRuns.snoc (w := w4) hown)
          clear hown hgrow
          go_wp2
          go_roundw
          case rel => exact ⟨k + 1, by omega, by go_num, by rw [HT.out]; exact HO.out, HG.out⟩
          case measure => simp [intOf]; omega
    · obtain rfl : k = n := by omega
      have hq := fun (u10 u11 u12 u13 u14 u40 u41 u42 u43 u44 u45 u46 u47 u48 u49 u50 u51 u52 u53 u54 u55 u56 u57 u58 u59 u60 u61 u62 u63 u64 u65 u66 u67 u68 u69 u70 u71 u72 u73 u74 u75 u76 u77 u78 u79 u80 u81 u82 u83 u84 u85 u86 u87 u88 u89 u90 u91 u92 u93 : Value) => fun v (h : HasRuns wr B v (runsTo st K ex lab k s k)) => hQ v u10 u11 u12 u13 u14 u40 u41 u42 u43 u44 u45 u46 u47 u48 u49 u50 u51 u52 u53 u54 u55 u56 u57 u58 u59 u60 u61 u62 u63 u64 u65 u66 u67 u68 u69 u70 u71 u72 u73 u74 u75 u76 u77 u78 u79 u80 u81 u82 u83 u84 u85 u86 u87 u88 u89 u90 u91 u92 u93 wr h hbr
      have HR := hide hr
      clear hE hEr hbr hmono hlab hQ hb hr hS
      go_wp2
      exact hq _ _ _ _ _ _ _ _ _ _ _ _ _ _ _ _ _ _ _ _ _ _ _ _ _ _ _ _ _ _ _ _ _ _ _ _ _ _ _ _ _ _ _ _ _ _ _ _ _ _ _ _ _ _ _ _ _ _ _ _ HR.out


end Go.Proofs.Ybulkbfhw
