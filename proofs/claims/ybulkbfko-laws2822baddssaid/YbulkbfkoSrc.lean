/- A slice of bytes: what it holds; append to a slice of the call's own; bytes.Clone; bytes.Equal. (After the texts of the seat b2819aF.) -/
import Derived.Test.YbulkbfkoCount
import Derived.Laws.AppendOwn
import Derived.Laws.AppendOwnNone
import Derived.Laws.BytesArg
namespace Go.Proofs.Ybulkbfko
open Go.RowKit
set_option linter.unusedVariables false

theorem eqNil23 (a : Option Addr) (n c : Nat) (w : World) : (binOp .eql 23 (.slice a n c) (.slice none 0 0)).run Yba.prog w = .ok (.bool a.isNone) w := Lib.run_eql_slice_nil w _ _ a n c 0 0 Yba.underlying23
attribute [local go_sem] eqNil23
theorem info5 : (Yba.prog.info? 5).map (fun i => (i.zero, i.size, i.bytes)) = some (some (.int .u8 0), 1, 1) := by kernel_rfl

/-- n bytes. -/
def bs (n : Nat) (x : Nat → Int) : List Value := (List.range n).map fun j => .int .u8 (x j)
theorem bs_length (n : Nat) (x : Nat → Int) : (bs n x).length = n := by simp [bs]
theorem bs_get {n : Nat} {x : Nat → Int} {j : Nat} {u : Value} (h : (bs n x)[j]? = some u) : j < n ∧ u = .int .u8 (x j) := by
  have hj : j < n := by
    have := (List.getElem?_eq_some_iff.1 h).1
    simpa [bs] using this
  refine ⟨hj, ?_⟩
  simpa [bs, hj] using h.symm
theorem bs_at {n : Nat} {x : Nat → Int} {j : Nat} (h : j < n) : (bs n x)[j]? = some (.int .u8 (x j)) := by simp [bs, h]
theorem bs_one {n : Nat} {x : Nat → Int} {u : Value} (h : u ∈ bs n x) : u.oneCell' = true := by
  obtain ⟨j, _, rfl⟩ := List.mem_map.1 h
  rfl

/-- The call's own slice v holds n bytes. -/
def HasBytes (w : World) (B : Nat) (v : Value) (n : Nat) (l : List Value) : Prop := w.ownsRow B 5 1 v n l
theorem HasBytes.form {w : World} {B n : Nat} {v : Value} {x : Nat → Int} (h : HasBytes w B v n (bs n x)) (hR : 0 < n) : ∃ g cap, v = .slice (some ⟨g, 0, none⟩) n cap ∧ B ≤ g ∧ g < w.heap.size ∧ n ≤ cap ∧ cap ≤ maxLen ∧ ∀ j, j < n → w.cell? ⟨g, j, none⟩ = some (.int .u8 (x j)) := by
  rcases h.2 with ⟨_, hn⟩ | ⟨g, cap, cur, e, hB, hg, hc, hm, hs, ht⟩
  · omega
  · refine ⟨g, cap, e, hB, (Array.getElem?_eq_some_iff.1 hg).1, hc, hm, fun j hj => ?_⟩
    rw [cell_of_row w g j cur 5 (0, 0) hg]
    have hu := bs_at (x := x) hj
    rw [← ht, List.getElem?_take] at hu
    split at hu
    · simpa using hu
    · cases hu
theorem HasBytes.of_grown {w w' : World} {row : Option Nat} (h : w.grownBy w' row) (B : Nat) (hr : ∀ k, row = some k → B ≤ k) (hB : B ≤ w.heap.size) : Below B w w' :=
  ⟨h.os, h.tape, h.output, h.size, fun k hk => h.block k (by omega) (fun e => by have := hr k e.symm; omega)⟩


/-- The slice sv holds the values 'news'. -/
def Src (w : World) (sv : Value) (news : List Value) : Prop :=
  (sv = .slice none 0 0 ∧ news = []) ∨ ∃ ad m c, sv = .slice (some ad) m c ∧ news.length = m ∧ ∀ j u, news[j]? = some u → w.cell? (ad.add j) = some u
theorem Src.below {w w' : World} {sv : Value} {news : List Value} {B : Nat} (h : Src w sv news) (hb : Below B w w') (hB : w.heap.size ≤ B) : Src w' sv news := by
  rcases h with h | ⟨ad, m, c, e, hl, hc⟩
  · exact .inl h
  · refine .inr ⟨ad, m, c, e, hl, fun j u hu => ?_⟩
    have hj := hc j u hu
    have hlt : (ad.add j).block < B := Nat.lt_of_lt_of_le (World.block_lt_of_cell? w _ hj) hB
    exact (hb.cell (p := ad.add j) hlt).trans hj

theorem Src.at0 {w : World} {a : Option Addr} {n cap : Nat} {t : Nat → Int} (h : Src w (.slice a n cap) (bs n t)) (hn : 0 < n) : ∃ b off, a = some ⟨b, off, none⟩ ∧ b < w.heap.size ∧ ∀ j, j < n → w.cell? ⟨b, off + j, none⟩ = some (.int .u8 (t j)) := by
  rcases h with ⟨h, _⟩ | ⟨ad, m, c, e, hl, hc⟩
  · simp only [Value.slice.injEq] at h
    omega
  · simp only [Value.slice.injEq] at e
    obtain ⟨rfl, rfl, rfl⟩ := e
    obtain ⟨b, off, spot⟩ := ad
    have h0 := hc 0 _ (bs_at hn)
    have hspot : spot = none := by simpa [Addr.add] using World.cell?_spot h0
    subst hspot
    refine ⟨b, off, rfl, ?_, fun j hj => ?_⟩
    · rw [addr_add] at h0
      exact World.block_lt_of_cell? w _ h0
    · rw [← addr_add]
      exact hc j _ (bs_at hj)

theorem grown_refl (w : World) (row : Option Nat) : w.grownBy w row := ⟨rfl, rfl, rfl, Nat.le_refl _, fun _ _ _ => rfl⟩

theorem wpList_append_src {w : World} {ops : Array Oper} {rest : List Oper} {o : Oper} {a : Act} {Q : Exit → Act → World → Prop} (hgd : o.guard = none) (s x : Operand)
    (ho : o.op = .call { callee := .builtin .append, args := #[s, x], argTypes := #[23, 23] })
    (base : Nat) (v : Value) (n : Nat) (xs : List Value) (hs : a.eval s = v) (hown : w.ownsRow base 5 1 v n xs)
    (sv : Value) (news : List Value) (hx : a.eval x = sv) (hsrc : Src w sv news) (h1 : ∀ u ∈ news, u.oneCell' = true)
    (hlen : n + news.length ≤ 100000) (hbase : base ≤ w.heap.size)
    (h : ∀ v' w', w'.ownsRow base 5 1 v' (n + news.length) (xs ++ news) → w.grownBy w' v.ownBlock → wpList Yba.prog ops Q rest (a.put o.dst v') w') : wpList Yba.prog ops Q (o :: rest) a w := by
  obtain ⟨i0, hi0, hi1⟩ := Option.map_eq_some_iff.1 info5
  simp only [Prod.mk.injEq] at hi1
  obtain ⟨hz0, hz1, hz2⟩ := hi1
  rcases hsrc with ⟨rfl, rfl⟩ | ⟨ad, m, c, rfl, hl, hc⟩
  · refine wpList_append_own_none hgd s x 23 ho base 5 i0 1 Yba.underlying23 hi0 v n xs hs hown hx ?_
    exact h v w (by simpa using hown) (grown_refl _ _)
  · refine wpList_append_own _ hgd s x 23 ho base 5 i0 _ 1 1 Yba.underlying23 hi0 hz0 hz1 hz2 rfl (by decide) v n xs hs hown ad m c news hx (by omega) hc h1 (Nat.le_trans (show n + m ≤ 100000 by omega) (by decide)) (by omega) hbase ?_
    intro v' w' h2 h3 _
    rw [← hl] at h2
    exact h v' w' h2 h3

theorem owns_form {w : World} {B n : Nat} {v : Value} {l : List Value} (h : w.ownsRow B 5 1 v n l) (hR : 0 < n) : ∃ g cap, v = .slice (some ⟨g, 0, none⟩) n cap ∧ B ≤ g ∧ g < w.heap.size ∧ n ≤ cap ∧ ∀ j u, l[j]? = some u → w.cell? ⟨g, j, none⟩ = some u := by
  rcases h.2 with ⟨_, hn⟩ | ⟨g, cap, cur, e, hB, hg, hc, hm, hs, ht⟩
  · omega
  · refine ⟨g, cap, e, hB, (Array.getElem?_eq_some_iff.1 hg).1, hc, fun j u hu => ?_⟩
    rw [cell_of_row w g j cur 5 (0, 0) hg]
    rw [← ht, List.getElem?_take] at hu
    split at hu
    · simpa using hu
    · cases hu

theorem conv_src {w : World} {a : Option Addr} {n cap : Nat} {x : Nat → Int} (h : Src w (.slice a n cap) (bs n x)) : (convert 23 9 (.slice a n cap)).run Yba.prog w = .ok (.string (strOfNums ((List.range n).map x))) w := by
  rcases h with ⟨h, hl⟩ | ⟨ad, m, c, e, hl, hc⟩
  · simp only [Value.slice.injEq] at h
    obtain ⟨rfl, rfl, rfl⟩ := h
    exact run_convert_bytes_nil w 23 5 Yba.underlying23 Yba.underlying5 0 0 9 Yba.underlying9
  · simp only [Value.slice.injEq] at e
    obtain ⟨rfl, rfl, rfl⟩ := e
    have hl : (loadCells ad n).run Yba.prog w = .ok (((List.range n).map x).map (Value.int .u8)).toArray w := by
      have := run_loadCells_list (P := Yba.prog) w ad (bs n x) hc
      rw [bs_length] at this
      rw [this]
      simp [bs]
    rw [run_convert_bytes_string w 23 9 5 _ n cap Yba.underlying23 Yba.underlying5 Yba.underlying9, run_bytesToString w _ n cap _ hl, foldl_push_bytes]
    simp [strOfNums, ByteArray.empty, ByteArray.emptyWithCapacity]
    rfl

set_option maxHeartbeats 1000000 in
theorem equal_src (a1 a2 : Option Addr) (n c1 c2 : Nat) (x : Nat → Int) (w : World) (h1 : Src w (.slice a1 n c1) (bs n x)) (h2 : Src w (.slice a2 n c2) (bs n x)) :
    Calls Yba.prog 7 #[.slice a1 n c1, .slice a2 n c2] w fun e w' => e = .returned (.bool true) ∧ w' = w := by
  have g1 := conv_src h1
  have g2 := conv_src h2
  generalize strOfNums ((List.range n).map x) = s at g1 g2
  clear h1 h2
  go_enter Yba.func7, Yba.ntmps7
  go_wp2
  go_ret
  exact ⟨by simp, rfl⟩

theorem owns_src {w : World} {B n : Nat} {v : Value} {x : Nat → Int} (h : w.ownsRow B 5 1 v n (bs n x)) : ∃ a cp, v = .slice a n cp ∧ Src w (.slice a n cp) (bs n x) := by
  rcases h.2 with ⟨e, hn⟩ | ⟨g, cap, cur, e, hB, hg, hc, hm, hs, ht⟩
  · subst hn
    exact ⟨none, 0, e, .inl ⟨rfl, rfl⟩⟩
  · refine ⟨some ⟨g, 0, none⟩, cap, e, .inr ⟨⟨g, 0, none⟩, n, cap, rfl, bs_length _ _, fun j u hu => ?_⟩⟩
    rw [addr_add, Nat.zero_add, cell_of_row w g j cur 5 (0, 0) hg]
    rw [← ht, List.getElem?_take] at hu
    split at hu
    · simpa using hu
    · cases hu


set_option maxHeartbeats 400000 in
theorem clone_nil (w : World) : Calls Yba.prog 5 #[.slice none 0 0] w fun en w' => en = .returned (.slice none 0 0) ∧ w' = w := by
  go_enter Yba.func5, Yba.ntmps5
  go_wp2
  go_ret
  exact ⟨rfl, rfl⟩

set_option maxHeartbeats 400000 in
theorem clone_some (ad : Addr) (n cap : Nat) (x : Nat → Int) (w : World) (hn : n ≤ 65536) (hs : Src w (.slice (some ad) n cap) (bs n x)) :
    Calls Yba.prog 5 #[.slice (some ad) n cap] w fun en w' => ∃ a' cp, en = .returned (.slice a' n cp) ∧ Src w' (.slice a' n cp) (bs n x) ∧ Below w.heap.size w w' := by
  have HS := hide hs
  clear hs
  go_enter Yba.func5, Yba.ntmps5
  go_wp2_with (first
    | (at_builtin; refine wpList_append_src rfl _ _ rfl w.heap.size _ 0 [] rfl ?o1 (.slice (some ad) n cap) (bs n x) rfl ?o2 (fun u hu => bs_one hu) ?o3 ?o4 ?_))
  case o1 => exact ⟨by simp, .inr ⟨w.heap.size, 0, #[], rfl, Nat.le_refl _, Go.Deep.blk_alloc_new w _, Nat.le_refl _, by decide, rfl, rfl⟩⟩
  case o2 => exact HS.out.below ((Below.refl w.heap.size w).alloc (Nat.le_refl _) _) (Nat.le_refl _)
  case o3 => rw [bs_length]; omega
  case o4 => simp
  intro v' w2 h2 h3
  rw [bs_length] at h2
  have hb2 : Below w.heap.size w w2 := ((Below.refl w.heap.size w).alloc (Nat.le_refl _) _).trans (HasBytes.of_grown h3 w.heap.size (fun k hk => by cases hk; exact Nat.le_refl _) (by simp))
  obtain ⟨b', cp, rfl, hsb⟩ := owns_src h2
  go_wp2
  go_ret
  exact ⟨b', cp, rfl, hsb, hb2⟩

/-- bytes.Clone. -/
theorem clone_any (a : Option Addr) (n cap : Nat) (x : Nat → Int) (w : World) (hn : n ≤ 65536) (hs : Src w (.slice a n cap) (bs n x)) :
    Calls Yba.prog 5 #[.slice a n cap] w fun en w' => ∃ a' cp, en = .returned (.slice a' n cp) ∧ Src w' (.slice a' n cp) (bs n x) ∧ Below w.heap.size w w' := by
  cases a with
  | some ad => exact clone_some ad n cap x w hn hs
  | none =>
    rcases hs with ⟨h, hl⟩ | ⟨ad, m, c, e, hl, hc⟩
    · simp only [Value.slice.injEq] at h
      obtain ⟨_, rfl, rfl⟩ := h
      exact (clone_nil w).mono fun e w' ⟨h1, h2⟩ => ⟨none, 0, h1, .inl ⟨rfl, rfl⟩, h2 ▸ Below.refl _ _⟩
    · simp at e

end Go.Proofs.Ybulkbfko
