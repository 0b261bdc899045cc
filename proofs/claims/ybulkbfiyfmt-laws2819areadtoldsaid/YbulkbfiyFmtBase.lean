/- The decoder: a block of three cells (the bytes, the offset, the error). Worlds in which one block alone may turn. -/
import Derived.Test.YbulkbfiyFmtRows
import Derived.Test.YbulkbfiyFmtKept
import Derived.WalkKit
import Derived.WalkSpells
import Derived.WalkLawsBesides
import Derived.Below
import Derived.Deep.OwnRows
import Derived.Deep.QuietTactic
import Derived.BigQuiet
import Derived.BigRegion
import Derived.Deep.RegionHeld3
import Derived.Deep.RegionWith
import Derived.Deep.RegionLaw
import Derived.Deep.DrawnRows
import Derived.Deep.DeepMust
import Derived.Laws.AppendOwn
import Derived.Laws.AppendOwnNone
import Derived.Laws.CopyRow
import Derived.Laws.CopyOwn
namespace Go.Proofs.YbulkbfiyFmt
open Go.RowKit
set_option linter.unusedVariables false

theorem eqNil22 (a : Option Addr) (n c : Nat) (w : World) : (binOp .eql 22 (.slice a n c) (.slice none 0 0)).run Ybaf.prog w = .ok (.bool a.isNone) w := Lib.run_eql_slice_nil w _ _ a n c 0 0 Ybaf.underlying22
attribute [local go_sem] eqNil22
theorem info5 : (Ybaf.prog.info? 5).map (fun i => (i.zero, i.size, i.bytes)) = some (some (.int .u8 0), 1, 1) := by kernel_rfl

/-- n bytes. -/
def bs (n : Nat) (x : Nat → Int) : List Value := (List.range n).map fun j => .int .u8 (x j)
theorem bs_length (n : Nat) (x : Nat → Int) : (bs n x).length = n := by simp [bs]
theorem bs_get {n : Nat} {x : Nat → Int} {j : Nat} {u : Value} (h : (bs n x)[j]? = some u) : j < n ∧ u = .int .u8 (x j) := by
  have hj : j < n := by
    have := (List.getElem?_eq_some_iff.1 h).1
    simpa [bs] using this
  refine ⟨hj, ?_⟩
  simpa [bs, hj] using h.symm
theorem bs_at {n : Nat} {x : Nat → Int} {j : Nat} (h : j < n) : (bs n x)[j]? = some (.int .u8 (x j)) := by simp [bs, h]
theorem bs_one {n : Nat} {x : Nat → Int} {u : Value} (h : u ∈ bs n x) : u.oneCell' = true := by
  obtain ⟨j, _, rfl⟩ := List.mem_map.1 h
  rfl

/-- The call's own slice v holds n bytes. -/
def HasBytes (w : World) (B : Nat) (v : Value) (n : Nat) (l : List Value) : Prop := w.ownsRow B 5 1 v n l
theorem HasBytes.form {w : World} {B n : Nat} {v : Value} {x : Nat → Int} (h : HasBytes w B v n (bs n x)) (hR : 0 < n) : ∃ g cap, v = .slice (some ⟨g, 0, none⟩) n cap ∧ B ≤ g ∧ g < w.heap.size ∧ n ≤ cap ∧ cap ≤ maxLen ∧ ∀ j, j < n → w.cell? ⟨g, j, none⟩ = some (.int .u8 (x j)) := by
  rcases h.2 with ⟨_, hn⟩ | ⟨g, cap, cur, e, hB, hg, hc, hm, hs, ht⟩
  · omega
  · refine ⟨g, cap, e, hB, (Array.getElem?_eq_some_iff.1 hg).1, hc, hm, fun j hj => ?_⟩
    rw [cell_of_row w g j cur 5 (0, 0) hg]
    have hu := bs_at (x := x) hj
    rw [← ht, List.getElem?_take] at hu
    split at hu
    · simpa using hu
    · cases hu
theorem HasBytes.of_grown {w w' : World} {row : Option Nat} (h : w.grownBy w' row) (B : Nat) (hr : ∀ k, row = some k → B ≤ k) (hB : B ≤ w.heap.size) : Below B w w' :=
  ⟨h.os, h.tape, h.output, h.size, fun k hk => h.block k (by omega) (fun e => by have := hr k e.symm; omega)⟩


/-- Of the blocks below B, all but D are as they were. -/
structure But (B D : Nat) (w w' : World) : Prop where
  os : w'.os = w.os
  tape : w'.tape = w.tape
  output : w'.output = w.output
  size : w.heap.size ≤ w'.heap.size
  block : ∀ k, k < B → k ≠ D → w'.heap[k]? = w.heap[k]?

namespace But
variable {B D : Nat} {w w' w'' : World}
theorem refl (B D : Nat) (w : World) : But B D w w := ⟨rfl, rfl, rfl, Nat.le_refl _, fun _ _ _ => rfl⟩
theorem trans (h : But B D w w') (k : But B D w' w'') : But B D w w'' :=
  ⟨k.os.trans h.os, k.tape.trans h.tape, k.output.trans h.output, Nat.le_trans h.size k.size, fun i hi hd => (k.block i hi hd).trans (h.block i hi hd)⟩
theorem mono {B' : Nat} (h : But B D w w') (hB : B' ≤ B) : But B' D w w' := ⟨h.os, h.tape, h.output, h.size, fun k hk hd => h.block k (by omega) hd⟩
theorem drewN (h : But B D w w') (n : Nat) : But B D w (w'.drewN n) := ⟨h.os, h.tape, h.output, h.size, h.block⟩
theorem drew (h : But B D w w') : But B D w w'.drew := ⟨h.os, h.tape, h.output, h.size, h.block⟩
theorem setCell (h : But B D w w') (i : Nat) (v : Value) : But B D w (w'.setCell ⟨D, i, none⟩ v) :=
  h.trans ⟨rfl, rfl, rfl, by simp [World.setCell], fun k _ hk => Below.heap_setCell _ _ _ _ hk⟩
theorem setCellUp (h : But B D w w') {d : Nat} (hd : B ≤ d) (i : Nat) (v : Value) : But B D w (w'.setCell ⟨d, i, none⟩ v) :=
  h.trans ⟨rfl, rfl, rfl, by simp [World.setCell], fun k hk _ => Below.heap_setCell _ _ _ _ (by show k ≠ d; omega)⟩
theorem of_below (h : Below B w w') : But B D w w' := ⟨h.os, h.tape, h.output, h.size, fun k hk _ => h.block k hk⟩
theorem alloc (h : But B D w w') (hB : B ≤ w'.heap.size) (o : Obj) : But B D w (w'.alloc o) :=
  h.trans (of_below ((Below.refl _ _).alloc hB o))
theorem cell (h : But B D w w') {p : Addr} (hp : p.block < B) (hd : p.block ≠ D) : w'.cell? p = w.cell? p := World.cell?_of_block (w := w) (h.block _ hp hd)
theorem below (h : But B D w w') {A : Nat} (hA : A ≤ B) (hD : A ≤ D) : Below A w w' := ⟨h.os, h.tape, h.output, h.size, fun k hk => h.block k (by omega) (by omega)⟩
end But

/-- The decoder at D. -/
def Dec (w : World) (D : Nat) (s : Value) (off : Nat) (e : Value) : Prop := w.heap[D]? = some (.cells #[s, .int .i64 (off : Int), e] 38)

namespace Dec
variable {w w' : World} {D : Nat} {s e : Value} {off : Nat}
theorem c0 (h : Dec w D s off e) : w.cell? ⟨D, 0, none⟩ = some s := by simp [World.cell?, (show w.heap[D]? = _ from h)]
theorem c1 (h : Dec w D s off e) : w.cell? ⟨D, 1, none⟩ = some (.int .i64 (off : Int)) := by simp [World.cell?, (show w.heap[D]? = _ from h)]
theorem c2 (h : Dec w D s off e) : w.cell? ⟨D, 2, none⟩ = some e := by simp [World.cell?, (show w.heap[D]? = _ from h)]
theorem f1 (h : Dec w D s off e) (i : Nat) : w.frozen? ⟨D, i, none⟩ = false := by simp [World.frozen?, (show w.heap[D]? = _ from h)]
theorem lt (h : Dec w D s off e) : D < w.heap.size := (Array.getElem?_eq_some_iff.1 h).1
theorem drewN (h : Dec w D s off e) (k : Nat) : Dec (w.drewN k) D s off e := h
theorem of_block (h : Dec w D s off e) (hb : w'.heap[D]? = w.heap[D]?) : Dec w' D s off e := hb.trans h
theorem below (h : Dec w D s off e) {B : Nat} (hb : Below B w w') (hD : D < B) : Dec w' D s off e := h.of_block (hb.block D hD)
theorem set1 (h : Dec w D s off e) (o' : Nat) (x : Int) (hx : x = (o' : Int)) : Dec (w.setCell ⟨D, 1, none⟩ (.int .i64 x)) D s o' e := by
  subst hx
  simp only [Dec, World.setCell] at *
  rw [Array.getElem?_modify, if_pos rfl, h]
  rfl
theorem set2 (h : Dec w D s off e) (e' : Value) : Dec (w.setCell ⟨D, 2, none⟩ e') D s off e' := by
  simp only [Dec, World.setCell] at *
  rw [Array.getElem?_modify, if_pos rfl, h]
  rfl
end Dec

set_option maxHeartbeats 400000 in
theorem newDecoder (a : Option Addr) (n c : Nat) (w : World) : Calls Ybaf.prog 5 #[.slice a n c] w fun e w' => e = .returned (.pointer (some ⟨w.heap.size, 0, none⟩)) ∧ w' = w.alloc (.cells #[.slice a n c, .int .i64 0, .nilIface] 38) := by
  go_enter Ybaf.func5, Ybaf.ntmps5
  go_wp2
  go_ret
  exact ⟨rfl, rfl⟩

set_option maxHeartbeats 400000 in
theorem err_any (D : Nat) (s e : Value) (off : Nat) (w : World) (h : Dec w D s off e) : Calls Ybaf.prog 7 #[.pointer (some ⟨D, 0, none⟩)] w fun en w' => en = .returned e ∧ w' = w := by
  have c2 := h.c2
  clear h
  go_enter Ybaf.func7, Ybaf.ntmps7
  go_wp2
  go_ret
  exact ⟨rfl, rfl⟩

/-- 'take' where an error stands. -/
theorem take_err (D : Nat) (s : Value) (ty : TypeId) (ev : Value) (off : Nat) (n : Int) (w : World) (h : Dec w D s off (.iface ty ev)) : Calls Ybaf.prog 13 #[.pointer (some ⟨D, 0, none⟩), .int .i64 n] w fun en w' => en = .returned (.slice none 0 0) ∧ w' = w := by
  have c2 := h.c2
  clear h
  go_enter Ybaf.func13, Ybaf.ntmps13
  go_wp2
  go_ret
  exact ⟨rfl, rfl⟩

set_option maxHeartbeats 1000000 in
/-- 'take' where the bytes are there. -/
theorem take_ok (D g p N cap off n : Nat) (w : World) (h : Dec w D (.slice (some ⟨g, p, none⟩) N cap) off .nilIface) (hn : off + n ≤ N) (h1 : 1 ≤ n) (hN : N ≤ cap) (hb : N ≤ 100000) :
    Calls Ybaf.prog 13 #[.pointer (some ⟨D, 0, none⟩), .int .i64 (n : Int)] w fun en w' => en = .returned (.slice (some ⟨g, p + off, none⟩) n (cap - off)) ∧ Dec w' D (.slice (some ⟨g, p, none⟩) N cap) (off + n) .nilIface ∧ But w.heap.size D w w' ∧ w'.heap.size = w.heap.size := by
  have c0 := h.c0
  have c1 := h.c1
  have c2 := h.c2
  have f1 := h.f1 1
  have hd : decide ((n : Int) < 0) = false := by simp
  have v1 : IntKind.i64.wrap ((N : Int) - (off : Int)) = (N : Int) - (off : Int) := IntWalk.i64_in _ ⟨by omega, by omega⟩
  have hd2 : decide ((N : Int) - (off : Int) < (n : Int)) = false := by simp; omega
  have v2 : IntKind.i64.wrap ((off : Int) + (n : Int)) = (off : Int) + (n : Int) := IntWalk.i64_in _ ⟨by omega, by omega⟩
  have hne : ¬ cap = off := by omega
  have hen : off + n - off = n := by omega
  have H := hide h
  clear h
  go_enter Ybaf.func13, Ybaf.ntmps13
  go_wp2
  go_quiet (fail)
  go_wp2
  go_quiet (fail)
  go_wp2
  go_ret
  exact ⟨by show Ending.returned (.slice (some ⟨g, p + off, none⟩) (off + n - off) (cap - off)) = _; rw [hen], (H.out.drewN _).set1 _ _ (by simp), ((But.refl _ _ _).drewN _).setCell _ _, by simp [World.setCell]⟩

set_option maxHeartbeats 400000 in
theorem uint8_err (D : Nat) (s : Value) (ty : TypeId) (ev : Value) (off : Nat) (w : World) (h : Dec w D s off (.iface ty ev)) : Calls Ybaf.prog 8 #[.pointer (some ⟨D, 0, none⟩)] w fun en w' => en = .returned (.int .u8 0) ∧ w' = w := by
  have HT := hide (take_err D s ty ev off 1 w h)
  clear h
  go_enter Ybaf.func8, Ybaf.ntmps8
  go_wp2_with fail
  refine HT.out.mono ?_
  rintro e w2 ⟨rfl, rfl⟩
  go_wp2
  go_ret
  exact ⟨rfl, rfl⟩

set_option maxHeartbeats 400000 in
theorem uint8_ok (D g p N cap off : Nat) (x : Int) (w : World) (h : Dec w D (.slice (some ⟨g, p, none⟩) N cap) off .nilIface) (hn : off + 1 ≤ N) (hN : N ≤ cap) (hb : N ≤ 100000) (hg : g ≠ D) (hx : w.cell? ⟨g, p + off, none⟩ = some (.int .u8 x)) :
    Calls Ybaf.prog 8 #[.pointer (some ⟨D, 0, none⟩)] w fun en w' => en = .returned (.int .u8 x) ∧ Dec w' D (.slice (some ⟨g, p, none⟩) N cap) (off + 1) .nilIface ∧ But w.heap.size D w w' ∧ w'.heap.size = w.heap.size := by
  have HT := hide (take_ok D g p N cap off 1 w h hn (by omega) hN hb)
  have hgl : g < w.heap.size := World.block_lt_of_cell? w _ hx
  clear h
  go_enter Ybaf.func8, Ybaf.ntmps8
  go_wp2_with fail
  refine HT.out.mono ?_
  rintro e w2 ⟨rfl, h2, h3, h4⟩
  have hx2 : w2.cell? ⟨g, p + off, none⟩ = some (.int .u8 x) := (h3.cell (p := ⟨g, p + off, none⟩) hgl hg).trans hx
  go_wp2
  go_ret
  exact ⟨rfl, h2, h3, h4⟩

set_option maxHeartbeats 400000 in
theorem clone_nil (w : World) : Calls Ybaf.prog 18 #[.slice none 0 0] w fun en w' => en = .returned (.slice none 0 0) ∧ w' = w := by
  go_enter Ybaf.func18, Ybaf.ntmps18
  go_wp2
  go_ret
  exact ⟨rfl, rfl⟩

set_option maxHeartbeats 400000 in
theorem clone_5 (g p cap : Nat) (x : Nat → Int) (w : World) (hx : ∀ j, j < 5 → w.cell? ⟨g, p + j, none⟩ = some (.int .u8 (x j))) :
    Calls Ybaf.prog 18 #[.slice (some ⟨g, p, none⟩) 5 cap] w fun en w' => ∃ k c, en = .returned (.slice (some ⟨k, 0, none⟩) 5 c) ∧ w.heap.size ≤ k ∧ (∀ j, j < 5 → w'.cell? ⟨k, j, none⟩ = some (.int .u8 (x j))) ∧ Below w.heap.size w w' := by
  have HX := hide hx
  clear hx
  go_enter Ybaf.func18, Ybaf.ntmps18
  obtain ⟨i0, hi0, hi1⟩ := Option.map_eq_some_iff.1 info5
  simp only [Prod.mk.injEq] at hi1
  obtain ⟨hz0, hz1, hz2⟩ := hi1
  go_wp2_with (first
    | (at_builtin; refine wpList_append_own _ rfl _ _ 22 rfl w.heap.size 5 i0 _ 1 1 Ybaf.underlying22 hi0 hz0 hz1 hz2 rfl (by decide) _ _ _ rfl (World.ownsRow_nil _ _ _ _) ⟨g, p, none⟩ 5 cap (bs 5 x) rfl (by rw [bs_length]) ?c1 (fun u hu => bs_one hu) (by decide) (by decide) (Nat.le_refl _) ?_))
  case c1 =>
    intro j u hj
    obtain ⟨hj', rfl⟩ := bs_get hj
    rw [addr_add]
    exact HX.out j hj'
  intro v' w2 h1 h2 _
  obtain ⟨k, c, rfl, hk, hkl, _, _, hcs⟩ := HasBytes.form h1 (by omega)
  go_wp2
  go_ret
  exact ⟨k, c, rfl, hk, hcs, HasBytes.of_grown h2 _ (fun k hk => by cases hk) (Nat.le_refl _)⟩

end Go.Proofs.YbulkbfiyFmt
