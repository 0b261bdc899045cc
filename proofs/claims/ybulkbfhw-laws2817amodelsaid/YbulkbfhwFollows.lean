/- (*dependencyGraph).ranges at a graph that bears its First alone; the second literal of (*orderTrial).runs: does the label at i go on with the run of the one before it? -/
import Derived.Test.YbulkbfhwSearch
namespace Go.Proofs.Ybulkbfhw
open Go.RowKit
set_option linter.unusedVariables false

set_option maxHeartbeats 400000 in
theorem ranges_any (D F : Nat) (e : Nat) (w : World) (he : e ≤ 100) (h0 : w.cell? ⟨D, 0, none⟩ = some (.slice (some ⟨F, 0, none⟩) (e + 1) (e + 1))) (h1 : ∀ i, 0 < i → i < 6 → w.cell? ⟨D, i, none⟩ = some (.slice none 0 0)) :
    Calls Yba.prog 10 #[.pointer (some ⟨D, 0, none⟩)] w fun en w' => en = .returned (.agg #[.int .i32 0, .int .i32 (e : Int), .int .i32 (e : Int), .int .i32 (e : Int)]) ∧ Below w.heap.size w w' := by
  have c1 := h1 1 (by omega) (by omega)
  have c2 := h1 2 (by omega) (by omega)
  have c3 := h1 3 (by omega) (by omega)
  have c4 := h1 4 (by omega) (by omega)
  have c5 := h1 5 (by omega) (by omega)
  have hb : D < w.heap.size := World.block_lt_of_cell? w _ h0
  clear h1
  go_enter Yba.func10, Yba.ntmps10
  go_wp2
  refine bodyPost_ret (v := .agg #[.int .i32 0, .int .i32 (e : Int), .int .i32 (e : Int), .int .i32 (e : Int)]) (by simp [results, Yba.results10, go_sem]) rfl ⟨rfl, (Below.refl _ _).alloc (Nat.le_refl _) _⟩

/-- What 'follows' reads. All of it lies below B. -/
structure Env (w : World) (B Lv Nv Ev Fv Lb V T Sb K n : Nat) (ex : Int) (st lab : Nat → Int) : Prop where
  cl : w.cell? ⟨Lv, 0, none⟩ = some (.slice (some ⟨Lb, 0, none⟩) n n)
  cn : w.cell? ⟨Nv, 0, none⟩ = some (.int .i64 (n : Int))
  ce : w.cell? ⟨Ev, 0, none⟩ = some (.int .i32 ex)
  cf : w.cell? ⟨Fv, 0, none⟩ = some (.func (.func 11) #[] #[.pointer (some ⟨V, 0, none⟩)])
  labs : ∀ i, i < n → w.cell? ⟨Lb, i, none⟩ = some (.int .i32 (lab i))
  cs : Starts w V T Sb K st
  lt : (Lv < B ∧ Nv < B ∧ Ev < B ∧ Fv < B ∧ Lb < B) ∧ V < B ∧ T < B ∧ Sb < B

theorem Env.below {w w' : World} {B Lv Nv Ev Fv Lb V T Sb K n : Nat} {ex : Int} {st lab : Nat → Int} (h : Env w B Lv Nv Ev Fv Lb V T Sb K n ex st lab) (hb : Below B w w') : Env w' B Lv Nv Ev Fv Lb V T Sb K n ex st lab :=
  ⟨(hb.cell (p := ⟨Lv, 0, none⟩) h.lt.1.1).trans h.cl, (hb.cell (p := ⟨Nv, 0, none⟩) h.lt.1.2.1).trans h.cn, (hb.cell (p := ⟨Ev, 0, none⟩) h.lt.1.2.2.1).trans h.ce, (hb.cell (p := ⟨Fv, 0, none⟩) h.lt.1.2.2.2.1).trans h.cf,
   fun i hi => (hb.cell (p := ⟨Lb, i, none⟩) h.lt.1.2.2.2.2).trans (h.labs i hi), h.cs.below hb h.lt.2.1 h.lt.2.2.1 h.lt.2.2.2, h.lt⟩
theorem Env.up {w : World} {B B' Lv Nv Ev Fv Lb V T Sb K n : Nat} {ex : Int} {st lab : Nat → Int} (h : Env w B Lv Nv Ev Fv Lb V T Sb K n ex st lab) (hB : B ≤ B') : Env w B' Lv Nv Ev Fv Lb V T Sb K n ex st lab :=
  ⟨h.cl, h.cn, h.ce, h.cf, h.labs, h.cs, by have := h.lt; omega⟩
theorem Env.drewN {w : World} {B Lv Nv Ev Fv Lb V T Sb K n : Nat} {ex : Int} {st lab : Nat → Int} (h : Env w B Lv Nv Ev Fv Lb V T Sb K n ex st lab) (q : Nat) : Env (w.drewN q) B Lv Nv Ev Fv Lb V T Sb K n ex st lab :=
  h.below (below_drewN (Below.refl _ _) q)

set_option maxHeartbeats 1000000 in
theorem follows_no1 (B Lv Nv Ev Fv Lb V T Sb K n : Nat) (ex : Int) (st lab : Nat → Int) (i p : Nat) (w : World) (h : Env w B Lv Nv Ev Fv Lb V T Sb K n ex st lab) (hB : B ≤ w.heap.size) (hn : n ≤ 2000) (hK : K ≤ 2000) (hmono : ∀ a b, a < b → b < K → st a < st b) (hex : 0 ≤ ex ∧ ex ≤ 100) (hlab : ∀ i, i < n → 0 ≤ lab i ∧ lab i ≤ 100000) (hi : i < n) (hp : p < n) (hpp : ((i : Int) + (n : Int) - 1) % (n : Int) = (p : Int)) (h1 : lab i < ex) :
    Calls Yba.prog 14 #[.int .i64 (i : Int), .pointer (some ⟨Lv, 0, none⟩), .pointer (some ⟨Nv, 0, none⟩), .pointer (some ⟨Ev, 0, none⟩), .pointer (some ⟨Fv, 0, none⟩)] w fun e w' => e = .returned (.bool false) ∧ Below B w w' := by
  have cl := h.cl
  have cn := h.cn
  have ce := h.ce
  have cf := h.cf
  have c1 := h.labs i hi
  have c2 := h.labs p hp
  have bl := hlab i hi
  have bb := hlab p hp
  have hiN : (i : Int) < (n : Int) := by omega
  have hpN : (p : Int) < (n : Int) := by omega
  have hn0 : ((n : Int) == 0) = false := by simp; omega
  generalize lab i = l at c1 bl h1
  generalize lab p = b at c2 bb
  clear h hlab hmono
  have hd : decide (ex ≤ l) = false := by simp; omega
  go_enter Yba.func14, Yba.ntmps14
  go_wp2
  go_quiet (fail)
  go_wp2
  go_quiet (fail)
  go_wp2
  go_ret
  exact ⟨rfl, below_drewN (below_drewN (Below.refl _ _) _) _⟩

set_option maxHeartbeats 1000000 in
theorem follows_no2 (B Lv Nv Ev Fv Lb V T Sb K n : Nat) (ex : Int) (st lab : Nat → Int) (i p : Nat) (w : World) (h : Env w B Lv Nv Ev Fv Lb V T Sb K n ex st lab) (hB : B ≤ w.heap.size) (hn : n ≤ 2000) (hK : K ≤ 2000) (hmono : ∀ a b, a < b → b < K → st a < st b) (hex : 0 ≤ ex ∧ ex ≤ 100) (hlab : ∀ i, i < n → 0 ≤ lab i ∧ lab i ≤ 100000) (hi : i < n) (hp : p < n) (hpp : ((i : Int) + (n : Int) - 1) % (n : Int) = (p : Int)) (h1 : ex ≤ lab i ∧ lab p < ex) :
    Calls Yba.prog 14 #[.int .i64 (i : Int), .pointer (some ⟨Lv, 0, none⟩), .pointer (some ⟨Nv, 0, none⟩), .pointer (some ⟨Ev, 0, none⟩), .pointer (some ⟨Fv, 0, none⟩)] w fun e w' => e = .returned (.bool false) ∧ Below B w w' := by
  have cl := h.cl
  have cn := h.cn
  have ce := h.ce
  have cf := h.cf
  have c1 := h.labs i hi
  have c2 := h.labs p hp
  have bl := hlab i hi
  have bb := hlab p hp
  have hiN : (i : Int) < (n : Int) := by omega
  have hpN : (p : Int) < (n : Int) := by omega
  have hn0 : ((n : Int) == 0) = false := by simp; omega
  generalize lab i = l at c1 bl h1
  generalize lab p = b at c2 bb h1
  clear h hlab hmono
  have h2 := h1.1
  have hd : decide (ex ≤ b) = false := by simp; omega
  go_enter Yba.func14, Yba.ntmps14
  go_wp2
  go_quiet (fail)
  go_wp2
  go_quiet (fail)
  go_wp2
  go_ret
  exact ⟨rfl, below_drewN (below_drewN (Below.refl _ _) _) _⟩

set_option maxHeartbeats 1000000 in
theorem follows_no3 (B Lv Nv Ev Fv Lb V T Sb K n : Nat) (ex : Int) (st lab : Nat → Int) (i p : Nat) (w : World) (h : Env w B Lv Nv Ev Fv Lb V T Sb K n ex st lab) (hB : B ≤ w.heap.size) (hn : n ≤ 2000) (hK : K ≤ 2000) (hmono : ∀ a b, a < b → b < K → st a < st b) (hex : 0 ≤ ex ∧ ex ≤ 100) (hlab : ∀ i, i < n → 0 ≤ lab i ∧ lab i ≤ 100000) (hi : i < n) (hp : p < n) (hpp : ((i : Int) + (n : Int) - 1) % (n : Int) = (p : Int)) (h1 : (ex ≤ lab i ∧ ex ≤ lab p) ∧ lab i ≠ lab p + 1) :
    Calls Yba.prog 14 #[.int .i64 (i : Int), .pointer (some ⟨Lv, 0, none⟩), .pointer (some ⟨Nv, 0, none⟩), .pointer (some ⟨Ev, 0, none⟩), .pointer (some ⟨Fv, 0, none⟩)] w fun e w' => e = .returned (.bool false) ∧ Below B w w' := by
  have cl := h.cl
  have cn := h.cn
  have ce := h.ce
  have cf := h.cf
  have c1 := h.labs i hi
  have c2 := h.labs p hp
  have bl := hlab i hi
  have bb := hlab p hp
  have hiN : (i : Int) < (n : Int) := by omega
  have hpN : (p : Int) < (n : Int) := by omega
  have hn0 : ((n : Int) == 0) = false := by simp; omega
  generalize lab i = l at c1 bl h1
  generalize lab p = b at c2 bb h1
  clear h hlab hmono
  have h2 := h1.1.1
  have h3 := h1.1.2
  have hd : (l == b + 1) = false := by simp; exact h1.2
  go_enter Yba.func14, Yba.ntmps14
  go_wp2
  go_quiet (fail)
  go_wp2
  go_quiet (fail)
  go_wp2
  go_ret
  exact ⟨rfl, below_drewN (below_drewN (Below.refl _ _) _) _⟩

set_option maxHeartbeats 1000000 in
theorem follows_yes (B Lv Nv Ev Fv Lb V T Sb K n : Nat) (ex : Int) (st lab : Nat → Int) (i p : Nat) (w : World) (h : Env w B Lv Nv Ev Fv Lb V T Sb K n ex st lab) (hB : B ≤ w.heap.size) (hn : n ≤ 2000) (hK : K ≤ 2000) (hmono : ∀ a b, a < b → b < K → st a < st b) (hex : 0 ≤ ex ∧ ex ≤ 100) (hlab : ∀ i, i < n → 0 ≤ lab i ∧ lab i ≤ 100000) (hi : i < n) (hp : p < n) (hpp : ((i : Int) + (n : Int) - 1) % (n : Int) = (p : Int)) (h1 : (ex ≤ lab i ∧ ex ≤ lab p) ∧ lab i = lab p + 1) :
    Calls Yba.prog 14 #[.int .i64 (i : Int), .pointer (some ⟨Lv, 0, none⟩), .pointer (some ⟨Nv, 0, none⟩), .pointer (some ⟨Ev, 0, none⟩), .pointer (some ⟨Fv, 0, none⟩)] w fun e w' => e = .returned (.bool (lastLE st (lab i - ex) K == lastLE st (lab p - ex) K)) ∧ Below B w w' := by
  have cl := h.cl
  have cn := h.cn
  have ce := h.ce
  have cf := h.cf
  have c1 := h.labs i hi
  have c2 := h.labs p hp
  have bl := hlab i hi
  have bb := hlab p hp
  have hiN : (i : Int) < (n : Int) := by omega
  have hpN : (p : Int) < (n : Int) := by omega
  have hn0 : ((n : Int) == 0) = false := by simp; omega
  have HK : Hid (∀ (j : Int) (w' : World), (Below B w w' ∧ w'.cell? ⟨Ev, 0, none⟩ = some (.int .i32 ex) ∧ w'.cell? ⟨Fv, 0, none⟩ = some (.func (.func 11) #[] #[.pointer (some ⟨V, 0, none⟩)])) → Calls Yba.prog 11 #[.int .i32 j, .pointer (some ⟨V, 0, none⟩)] w' fun e w'' => e = .returned (.int .i64 (lastLE st j K)) ∧ (Below B w w'' ∧ w''.cell? ⟨Ev, 0, none⟩ = some (.int .i32 ex) ∧ w''.cell? ⟨Fv, 0, none⟩ = some (.func (.func 11) #[] #[.pointer (some ⟨V, 0, none⟩)]))) := fun j w' ⟨hb, _, _⟩ =>
    (key_any V T Sb K st j w' (h.cs.below hb h.lt.2.1 h.lt.2.2.1 h.lt.2.2.2) (by have := h.lt.2.1; have := hb.size; omega) (by have := h.lt.2.2.1; have := hb.size; omega) (by have := h.lt.2.2.2; have := hb.size; omega) hK hmono).mono fun e w'' ⟨he, hb2⟩ => ⟨he, by
      have hb3 : Below B w w'' := hb.trans (hb2.mono (by have := hb.size; omega))
      exact ⟨hb3, (hb3.cell (p := ⟨Ev, 0, none⟩) h.lt.1.2.2.1).trans h.ce, (hb3.cell (p := ⟨Fv, 0, none⟩) h.lt.1.2.2.2.1).trans h.cf⟩⟩
  have HS : Hid (∀ q, (Below B w (w.drewN q).drew ∧ (w.drewN q).drew.cell? ⟨Ev, 0, none⟩ = some (.int .i32 ex) ∧ (w.drewN q).drew.cell? ⟨Fv, 0, none⟩ = some (.func (.func 11) #[] #[.pointer (some ⟨V, 0, none⟩)]))) := fun q => ⟨below_drewN (Below.refl _ _) (q + 1), ce, cf⟩
  obtain ⟨⟨h2, h3⟩, h4⟩ := h1
  rw [h4] at c1 h2 bl ⊢
  generalize lab p = b at c1 c2 bb bl h2 h3 ⊢
  clear h hlab hmono h4
  have v1 : IntKind.i32.wrap (b + 1) = b + 1 := IntWalk.i32_in _ ⟨by omega, by omega⟩
  have v2 : IntKind.i32.wrap (b + 1 - ex) = b + 1 - ex := IntWalk.i32_in _ ⟨by omega, by omega⟩
  have v3 : IntKind.i32.wrap (b - ex) = b - ex := IntWalk.i32_in _ ⟨by omega, by omega⟩
  go_enter Yba.func14, Yba.ntmps14
  go_wp2
  go_quiet (fail)
  go_wp2
  go_region_held3 (fun W => (Below B w W ∧ W.cell? ⟨Ev, 0, none⟩ = some (.int .i32 ex) ∧ W.cell? ⟨Fv, 0, none⟩ = some (.func (.func 11) #[] #[.pointer (some ⟨V, 0, none⟩)]))) (first | assumption | exact HS.out _) (first | (go_at_call 11; refine (HK.out _ _ (by assumption)).mono ?_; rintro e w2 ⟨rfl, hS2⟩))
  rename_i _ hS _ hS2
  go_wp2
  go_ret
  exact ⟨rfl, hS2.1⟩

/-- 'follows', for every i. -/
theorem follows_any (B Lv Nv Ev Fv Lb V T Sb K n : Nat) (ex : Int) (st lab : Nat → Int) (i : Nat) (w : World) (h : Env w B Lv Nv Ev Fv Lb V T Sb K n ex st lab) (hB : B ≤ w.heap.size) (hn : n ≤ 2000) (hK : K ≤ 2000) (hmono : ∀ a b, a < b → b < K → st a < st b) (hex : 0 ≤ ex ∧ ex ≤ 100) (hlab : ∀ i, i < n → 0 ≤ lab i ∧ lab i ≤ 100000) (hi : i < n) :
    Calls Yba.prog 14 #[.int .i64 (i : Int), .pointer (some ⟨Lv, 0, none⟩), .pointer (some ⟨Nv, 0, none⟩), .pointer (some ⟨Ev, 0, none⟩), .pointer (some ⟨Fv, 0, none⟩)] w fun e w' => e = .returned (.bool (folB st K ex lab n i)) ∧ Below B w w' := by
  have hp : (i + n - 1) % n < n := Nat.mod_lt _ (by omega)
  have hpp : ((i : Int) + (n : Int) - 1) % (n : Int) = (((i + n - 1) % n : Nat) : Int) := by
    have : (i : Int) + (n : Int) - 1 = ((i + n - 1 : Nat) : Int) := by omega
    rw [this]; omega
  unfold folB
  generalize (i + n - 1) % n = p at hp hpp ⊢
  by_cases h1 : ex ≤ lab i
  · by_cases h2 : ex ≤ lab p
    · by_cases h3 : lab i = lab p + 1
      · rw [decide_eq_true h1, decide_eq_true h2, decide_eq_true h3]
        simp only [Bool.true_and]
        exact follows_yes B Lv Nv Ev Fv Lb V T Sb K n ex st lab i p w h hB hn hK hmono hex hlab hi hp hpp ⟨⟨h1, h2⟩, h3⟩
      · rw [decide_eq_false h3]
        simp only [Bool.false_and, Bool.and_false]
        exact follows_no3 B Lv Nv Ev Fv Lb V T Sb K n ex st lab i p w h hB hn hK hmono hex hlab hi hp hpp ⟨⟨h1, h2⟩, h3⟩
    · rw [decide_eq_false h2]
      simp only [Bool.false_and, Bool.and_false]
      exact follows_no2 B Lv Nv Ev Fv Lb V T Sb K n ex st lab i p w h hB hn hK hmono hex hlab hi hp hpp ⟨h1, by omega⟩
  · rw [decide_eq_false h1]
    simp only [Bool.false_and]
    exact follows_no1 B Lv Nv Ev Fv Lb V T Sb K n ex st lab i p w h hB hn hK hmono hex hlab hi hp hpp (by omega)

end Go.Proofs.Ybulkbfhw
