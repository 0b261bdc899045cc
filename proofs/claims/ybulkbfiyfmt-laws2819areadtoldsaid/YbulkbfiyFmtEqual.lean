/- WRITTEN BY PROGRAM IN PART: the string of a slice's bytes; bytes.Equal at two slices of the same bytes; the law's loop. -/
import Derived.Test.YbulkbfiyFmtPosBad
import Derived.Test.YbulkbfiyFmtSrc
import Derived.Laws.BytesArg
namespace Go.Proofs.YbulkbfiyFmt
open Go.RowKit
attribute [local go_sem] call17 call19 fguard fmt_a fmt_ar fmt_b fmt_br fmt_c fmt_cr op5_100 op5_100w act5_100 op25_100 op25_100w act25_100 op3_100 op3_100w act3_100 op9_115w ptr53 elem53 eqNil22
attribute [local go_sem ↓] Go.wp_at_zero Go.wp_at_succ
set_option linter.unusedVariables false

theorem conv_src {w : World} {a : Option Addr} {n cap : Nat} {x : Nat → Int} (h : Src w (.slice a n cap) (bs n x)) : (convert 22 9 (.slice a n cap)).run Ybaf.prog w = .ok (.string (strOfNums ((List.range n).map x))) w := by
  rcases h with ⟨h, hl⟩ | ⟨ad, m, c, e, hl, hc⟩
  · simp only [Value.slice.injEq] at h
    obtain ⟨rfl, rfl, rfl⟩ := h
    exact run_convert_bytes_nil w 22 5 Ybaf.underlying22 Ybaf.underlying5 0 0 9 Ybaf.underlying9
  · simp only [Value.slice.injEq] at e
    obtain ⟨rfl, rfl, rfl⟩ := e
    have hl : (loadCells ad n).run Ybaf.prog w = .ok (((List.range n).map x).map (Value.int .u8)).toArray w := by
      have := run_loadCells_list (P := Ybaf.prog) w ad (bs n x) hc
      rw [bs_length] at this
      rw [this]
      simp [bs]
    rw [run_convert_bytes_string w 22 9 5 _ n cap Ybaf.underlying22 Ybaf.underlying5 Ybaf.underlying9, run_bytesToString w _ n cap _ hl, foldl_push_bytes]
    simp [strOfNums, ByteArray.empty, ByteArray.emptyWithCapacity]
    rfl

set_option maxHeartbeats 1000000 in
theorem equal_src (a1 a2 : Option Addr) (n c1 c2 : Nat) (x : Nat → Int) (w : World) (h1 : Src w (.slice a1 n c1) (bs n x)) (h2 : Src w (.slice a2 n c2) (bs n x)) :
    Calls Ybaf.prog 9 #[.slice a1 n c1, .slice a2 n c2] w fun e w' => e = .returned (.bool true) ∧ w' = w := by
  have g1 := conv_src h1
  have g2 := conv_src h2
  generalize strOfNums ((List.range n).map x) = s at g1 g2
  clear h1 h2
  go_enter Ybaf.func9, Ybaf.ntmps9
  go_wp2
  go_ret
  exact ⟨by simp, rfl⟩

/-- What the law's loop has gathered behind k bytes. -/
def accB (x : Nat → Nat) : Nat → Nat
  | 0 => 0
  | k + 1 => accB x k * 256 + x (k + 1)
theorem accB_lt (x : Nat → Nat) (hx : ∀ i, x i < 256) (k : Nat) : accB x k < 256 ^ k := by
  induction k with
  | zero => simp [accB]
  | succ k ih =>
    have := hx (k + 1)
    simp only [accB, Nat.pow_succ]
    omega
theorem or_low (a b : Nat) (hb : b < 256) : a * 256 ||| b = a * 256 + b := by
  have := Nat.two_pow_add_eq_or_of_lt (i := 8) hb a
  rw [Nat.mul_comm a 256]
  exact this.symm
theorem accB_five (x : Nat → Nat) : accB x 5 = be5 (x 1) (x 2) (x 3) (x 4) (x 5) := by
  show ((((0 * 256 + x 1) * 256 + x 2) * 256 + x 3) * 256 + x 4) * 256 + x 5 = be5 (x 1) (x 2) (x 3) (x 4) (x 5)
  unfold be5
  omega

set_option maxRecDepth 1000000 in
set_option maxHeartbeats 4000000 in
theorem read_loop {c1 c2 c3 c4 c5 c6 c8 c10 c11 c12 c13 c14 c15 c16 c17 c18 c19 c20 c21 c22 c23 c24 c25 c26 c27 c28 c29 c30 c31 c32 c33 c34 c35 c36 c37 c38 c39 c40 c41 c42 c43 c44 c45 c46 c47 c48 c49 c50 c51 c52 c53 c54 c55 c56 c57 c58 c59 c60 c61 c62 c63 c64 c65 c66 c67 c68 c69 c70 c71 c72 c73 c74 c75 c76 c77 c78 c79 c80 c81 c82 c83 c84 c85 c86 c87 c88 c89 c90 c91 c92 c93 : Value} (tb toff n cap : Nat) (x : Nat → Nat) (w : World) (Q : Exit → Act → World → Prop) (hn : 6 ≤ n) (hn2 : n ≤ 1024) (hx : ∀ i, x i < 256) (hc : ∀ j, j < n → w.cell? ⟨tb, toff + j, none⟩ = some (.int .u8 (x j : Int)))
    (hQ : ∀ (u9 u29 u30 u31 u32 u33 u34 u35 u36 u37 u38 u39 u40 : Value), Q (.exit 0) ⟨#[(.slice (some ⟨tb, toff, none⟩) n cap), c1, c2, c3, c4, c5, c6, (.int .u64 (accB x 5 : Nat)), c8, u9, c10, c11, c12, c13, c14, c15, c16, c17, c18, c19, c20, c21, c22, c23, c24, c25, c26, c27, c28, u29, u30, u31, u32, u33, u34, u35, u36, u37, u38, u39, u40, c41, c42, c43, c44, c45, c46, c47, c48, c49, c50, c51, c52, c53, c54, c55, c56, c57, c58, c59, c60, c61, c62, c63, c64, c65, c66, c67, c68, c69, c70, c71, c72, c73, c74, c75, c76, c77, c78, c79, c80, c81, c82, c83, c84, c85, c86, c87, c88, c89, c90, c91, c92, c93], []⟩ w) :
    Code.wp Ybaf.prog ((Ybaf.f3.body.bind (findBlock 0)).getD .skip) Q ⟨#[(.slice (some ⟨tb, toff, none⟩) n cap), c1, c2, c3, c4, c5, c6, (.int .u64 0), c8, (.int .i64 1), c10, c11, c12, c13, c14, c15, c16, c17, c18, c19, c20, c21, c22, c23, c24, c25, c26, c27, c28, c29, c30, c31, c32, c33, c34, c35, c36, c37, c38, c39, c40, c41, c42, c43, c44, c45, c46, c47, c48, c49, c50, c51, c52, c53, c54, c55, c56, c57, c58, c59, c60, c61, c62, c63, c64, c65, c66, c67, c68, c69, c70, c71, c72, c73, c74, c75, c76, c77, c78, c79, c80, c81, c82, c83, c84, c85, c86, c87, c88, c89, c90, c91, c92, c93], []⟩ w := by
  refine outOf ?_
  conv => arg 2; whnf
  go_wp2
  go_loopw [7, 9] (fun v i wr => ∃ k : Nat, k ≤ 5 ∧ i = .int .i64 ((k : Int) + 1) ∧ v = .int .u64 (accB x k : Nat) ∧ wr = w) (fun _ i _ => 6 - (intOf i).toNat)
  case atStart => exact ⟨0, by omega, rfl, rfl, rfl⟩
  case round =>
    obtain ⟨k, hk, rfl, rfl, rfl⟩ := hrel
    by_cases hlt : k < 5
    · have hd : decide ((k : Int) + 1 < 6) = true := by simp; omega
      have hacc := accB_lt x hx k
      have hp : 256 ^ k ≤ 256 ^ 4 := Nat.pow_le_pow_right (by omega) (by omega)
      have hcell : wr.cell? ⟨tb, toff + (k + 1), none⟩ = some (.int .u8 (x (k + 1) : Int)) := hc (k + 1) (by omega)
      have hb := hx (k + 1)
      have hstep : accB x (k + 1) = accB x k * 256 + x (k + 1) := rfl
      have hor := bits_or_u64_nat (accB x k * 256) (x (k + 1)) (by omega) (by omega)
      rw [or_low _ _ hb, ← hstep] at hor
      rw [Int.natCast_mul] at hor
      have hor : bits .or .u64 ((accB x k : Int) * 256) (x (k + 1) : Int) = (accB x (k + 1) : Int) := hor
      have v1 : IntKind.u64.wrap ((accB x k : Int) * 256) = (accB x k : Int) * 256 := u64_wrap_id _ (by omega) (by omega)
      have v2 : IntKind.u64.wrap (x (k + 1) : Int) = (x (k + 1) : Int) := u64_wrap_id _ (by omega) (by omega)
      have hkn : (k : Int) + 1 < (n : Int) := by omega
      have v3 : IntKind.i64.wrap ((k : Int) + 1 + 1) = (k : Int) + 1 + 1 := IntWalk.i64_in _ ⟨by omega, by omega⟩
      obtain ⟨A', hA'⟩ : ∃ A', A' = accB x (k + 1) := ⟨_, rfl⟩
      rw [← hA'] at hor
      have HA := hide hA'
      clear hstep hA' hQ hc hx
      generalize accB x k = A at *
      generalize x (k + 1) = b at *
      go_wp2
      go_roundw
      case rel => exact ⟨k + 1, by omega, by rw [Int.natCast_add]; rfl, by rw [HA.out], trivial⟩
      case measure => simp [intOf]; omega
    · have e5 : k = 5 := by omega
      subst e5
      have HQ := hide hQ
      clear hQ hc
      go_wp2
      exact HQ.out _ _ _ _ _ _ _ _ _ _ _ _ _

end Go.Proofs.YbulkbfiyFmt
