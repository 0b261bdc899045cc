/- The first literal of (*orderTrial).runs: the key of an arc, by sort.Search over the starts. -/
import Derived.Test.YbulkbfhwKey
import Derived.Deep.QuietTactic
import Derived.BigQuiet
import Derived.BigRegion
import Derived.Deep.RegionHeld3
import Derived.Deep.RegionWith
import Derived.Deep.DrawnRows
import Derived.Deep.DeepMust
namespace Go.Proofs.Ybulkbfhw
open Go.RowKit
set_option linter.unusedVariables false

/-- What the literal in keyOf reads: the variable t, the trial's starts, their row. -/
structure Starts (w : World) (V T Sb K : Nat) (st : Nat → Int) : Prop where
  v : w.cell? ⟨V, 0, none⟩ = some (.pointer (some ⟨T, 0, none⟩))
  t : w.cell? ⟨T, 5, none⟩ = some (.slice (some ⟨Sb, 0, none⟩) K K)
  s : ∀ i, i < K → w.cell? ⟨Sb, i, none⟩ = some (.int .i32 (st i))

set_option maxHeartbeats 400000 in
theorem test_any (V T Sb K J i : Nat) (st : Nat → Int) (j : Int) (w : World) (h : Starts w V T Sb K st) (hK : K ≤ 2000) (hj : w.cell? ⟨J, 0, none⟩ = some (.int .i32 j)) (hi : i < K) :
    Calls Yba.prog 13 #[.int .i64 (i : Int), .pointer (some ⟨V, 0, none⟩), .pointer (some ⟨J, 0, none⟩)] w fun e w' => e = .returned (.bool (decide (j < st i))) ∧ ∃ q, w' = w.drewN q := by
  obtain ⟨hv, ht, hs⟩ := h
  have hc := hs i hi
  generalize st i = x at hc ⊢
  have hiK : (i : Int) < (K : Int) := by omega
  clear hs
  go_enter Yba.func13, Yba.ntmps13
  go_wp2
  go_quiet (fail)
  go_wp2
  go_ret
  exact ⟨rfl, _, rfl⟩

set_option maxHeartbeats 400000 in
theorem search_any (V T Sb K J : Nat) (st : Nat → Int) (j : Int) (w : World) (h : Starts w V T Sb K st) (hK : K ≤ 2000) (hj : w.cell? ⟨J, 0, none⟩ = some (.int .i32 j)) (hmono : ∀ a b, a < b → b < K → st a < st b) :
    Calls Yba.prog 12 #[.int .i64 (K : Int), .func (.func 13) #[] #[.pointer (some ⟨V, 0, none⟩), .pointer (some ⟨J, 0, none⟩)]] w fun e w' => e = .returned (.int .i64 (lastLE st j K + 1)) ∧ ∃ q, w' = w.drewN q := by
  have HT := hide (fun (i q : Nat) (hi : i < K) => test_any V T Sb K J i st j (w.drewN q) ⟨h.v, h.t, h.s⟩ hK hj hi)
  clear hj h
  go_enter Yba.func12, Yba.ntmps12
  go_wp2
  go_loopw [5, 6] (fun a b wr => ∃ lo hi : Nat, lo ≤ hi ∧ hi ≤ K ∧ a = .int .i64 lo ∧ b = .int .i64 hi ∧ (∀ x, x < lo → st x ≤ j) ∧ (∀ x, hi ≤ x → x < K → j < st x) ∧ ∃ q, wr = w.drewN q) (fun a b _ => (intOf b).toNat - (intOf a).toNat)
  case atStart => exact ⟨0, K, by omega, by omega, rfl, rfl, fun x hx => by omega, fun x h1 h2 => by omega, 0, rfl⟩
  case round =>
    obtain ⟨lo, hi, hlh, hhK, rfl, rfl, h1, h2, q, rfl⟩ := hrel
    by_cases hlt : lo < hi
    · obtain ⟨m, hm⟩ : ∃ m, m = (lo + hi) / 2 := ⟨_, rfl⟩
      have hmm : ((lo : Int) + (hi : Int)) / 2 = (m : Int) := by omega
      have HC := hide (HT.out m q (by omega))
      have HH := hide (And.intro h1 h2)
      have hlm : lo ≤ m := by omega
      have hmh : m < hi := by omega
      have HM := hide (fun x (hx : m < x) (hk : x < K) => hmono m x hx hk)
      have HL := hide (fun x (hx : x < m) => hmono x m hx (by omega))
      clear h1 h2 hm hmono HT
      go_wp2_with fail
      refine HC.out.mono ?_
      rintro e w2 ⟨rfl, q2, rfl⟩
      by_cases hx : j < st m
      · rw [decide_eq_true hx]
        have G : Hid (∀ x, m ≤ x → x < K → j < st x) := fun x h1 h2 => by
          rcases Nat.lt_or_ge m x with g | g
          · have := HM.out x g h2; omega
          · have : x = m := by omega
            subst this; exact hx
        clear HC HM HL
        go_wp2
        go_roundw
        case rel => exact ⟨lo, m, by omega, by omega, rfl, rfl, HH.out.1, G.out, _, rfl⟩
        case measure => simp [intOf]; omega
      · rw [decide_eq_false hx]
        have G : Hid (∀ x, x < m + 1 → st x ≤ j) := fun x h1 => by
          rcases Nat.lt_or_ge x m with g | g
          · have := HL.out x g; omega
          · have : x = m := by omega
            subst this; omega
        clear HC HM HL
        go_wp2
        go_roundw
        case rel => exact ⟨m + 1, hi, by omega, by omega, by go_num, rfl, G.out, HH.out.2, _, rfl⟩
        case measure => simp [intOf]; omega
    · obtain rfl : lo = hi := by omega
      have e := hide (lastLE_split st j K lo hhK h1 h2)
      clear h1 h2 hmono HT
      go_wp2
      go_ret
      exact ⟨by rw [e.out, Int.sub_add_cancel]; rfl, _, rfl⟩

theorem hmf (fn : Fn) (first cap : Array Value) (w : World) : (Instr.makeFunc fn first cap).run Yba.prog w = .ok (.func fn first cap) w := rfl

theorem Starts.below {B : Nat} {w w' : World} {V T Sb K : Nat} {st : Nat → Int} (h : Starts w V T Sb K st) (hb : Below B w w') (h1 : V < B) (h2 : T < B) (h3 : Sb < B) : Starts w' V T Sb K st :=
  ⟨(hb.cell (p := ⟨V, 0, none⟩) h1).trans h.v, (hb.cell (p := ⟨T, 5, none⟩) h2).trans h.t, fun i hi => (hb.cell (p := ⟨Sb, i, none⟩) h3).trans (h.s i hi)⟩

set_option maxHeartbeats 400000 in
theorem key_any (V T Sb K : Nat) (st : Nat → Int) (j : Int) (w : World) (h : Starts w V T Sb K st) (hV : V < w.heap.size) (hT : T < w.heap.size) (hS : Sb < w.heap.size) (hK : K ≤ 2000) (hmono : ∀ a b, a < b → b < K → st a < st b) :
    Calls Yba.prog 11 #[.int .i32 j, .pointer (some ⟨V, 0, none⟩)] w fun e w' => e = .returned (.int .i64 (lastLE st j K)) ∧ Below w.heap.size w w' := by
  have hb : Below w.heap.size w (w.alloc (.cells #[.int .i32 j] 21)) := (Below.refl _ _).alloc (Nat.le_refl _) _
  have hs := h.below hb hV hT hS
  have HC := hide (search_any V T Sb K w.heap.size st j _ hs hK (by simp) hmono)
  have HB := hide hb
  obtain ⟨hv, ht, _⟩ := h
  have hlo := lastLE_lo st j K
  generalize lastLE st j K = r at HC hlo ⊢
  have hmf := hmf
  clear hb hs hmono
  go_enter Yba.func11, Yba.ntmps11
  go_wp2_with fail
  refine HC.out.mono ?_
  rintro e w2 ⟨rfl, q, rfl⟩
  go_wp2
  go_ret
  exact ⟨rfl, below_drewN HB.out q⟩

end Go.Proofs.Ybulkbfhw
