/- append(v, src...) where v is the call's own and src is nil or lies somewhere; what the slice then is. -/
import Derived.Test.YbulkbfiyFmtPos
namespace Go.Proofs.YbulkbfiyFmt
open Go.RowKit
attribute [local go_sem] eqNil22
set_option linter.unusedVariables false

/-- The slice sv holds the values 'news'. -/
def Src (w : World) (sv : Value) (news : List Value) : Prop :=
  (sv = .slice none 0 0 ∧ news = []) ∨ ∃ ad m c, sv = .slice (some ad) m c ∧ news.length = m ∧ ∀ j u, news[j]? = some u → w.cell? (ad.add j) = some u
theorem Src.below {w w' : World} {sv : Value} {news : List Value} {B : Nat} (h : Src w sv news) (hb : Below B w w') (hB : w.heap.size ≤ B) : Src w' sv news := by
  rcases h with h | ⟨ad, m, c, e, hl, hc⟩
  · exact .inl h
  · refine .inr ⟨ad, m, c, e, hl, fun j u hu => ?_⟩
    have hj := hc j u hu
    have hlt : (ad.add j).block < B := Nat.lt_of_lt_of_le (World.block_lt_of_cell? w _ hj) hB
    exact (hb.cell (p := ad.add j) hlt).trans hj

theorem Src.at0 {w : World} {a : Option Addr} {n cap : Nat} {t : Nat → Int} (h : Src w (.slice a n cap) (bs n t)) (hn : 0 < n) : ∃ b off, a = some ⟨b, off, none⟩ ∧ b < w.heap.size ∧ ∀ j, j < n → w.cell? ⟨b, off + j, none⟩ = some (.int .u8 (t j)) := by
  rcases h with ⟨h, _⟩ | ⟨ad, m, c, e, hl, hc⟩
  · simp only [Value.slice.injEq] at h
    omega
  · simp only [Value.slice.injEq] at e
    obtain ⟨rfl, rfl, rfl⟩ := e
    obtain ⟨b, off, spot⟩ := ad
    have h0 := hc 0 _ (bs_at hn)
    have hspot : spot = none := by simpa [Addr.add] using World.cell?_spot h0
    subst hspot
    refine ⟨b, off, rfl, ?_, fun j hj => ?_⟩
    · rw [addr_add] at h0
      exact World.block_lt_of_cell? w _ h0
    · rw [← addr_add]
      exact hc j _ (bs_at hj)

theorem grown_refl (w : World) (row : Option Nat) : w.grownBy w row := ⟨rfl, rfl, rfl, Nat.le_refl _, fun _ _ _ => rfl⟩

theorem wpList_append_src {w : World} {ops : Array Oper} {rest : List Oper} {o : Oper} {a : Act} {Q : Exit → Act → World → Prop} (hgd : o.guard = none) (s x : Operand)
    (ho : o.op = .call { callee := .builtin .append, args := #[s, x], argTypes := #[22, 22] })
    (base : Nat) (v : Value) (n : Nat) (xs : List Value) (hs : a.eval s = v) (hown : w.ownsRow base 5 1 v n xs)
    (sv : Value) (news : List Value) (hx : a.eval x = sv) (hsrc : Src w sv news) (h1 : ∀ u ∈ news, u.oneCell' = true)
    (hlen : n + news.length ≤ 100000) (hbase : base ≤ w.heap.size)
    (h : ∀ v' w', w'.ownsRow base 5 1 v' (n + news.length) (xs ++ news) → w.grownBy w' v.ownBlock → wpList Ybaf.prog ops Q rest (a.put o.dst v') w') : wpList Ybaf.prog ops Q (o :: rest) a w := by
  obtain ⟨i0, hi0, hi1⟩ := Option.map_eq_some_iff.1 info5
  simp only [Prod.mk.injEq] at hi1
  obtain ⟨hz0, hz1, hz2⟩ := hi1
  rcases hsrc with ⟨rfl, rfl⟩ | ⟨ad, m, c, rfl, hl, hc⟩
  · refine wpList_append_own_none hgd s x 22 ho base 5 i0 1 Ybaf.underlying22 hi0 v n xs hs hown hx ?_
    exact h v w (by simpa using hown) (grown_refl _ _)
  · refine wpList_append_own _ hgd s x 22 ho base 5 i0 _ 1 1 Ybaf.underlying22 hi0 hz0 hz1 hz2 rfl (by decide) v n xs hs hown ad m c news hx (by omega) hc h1 (Nat.le_trans (show n + m ≤ 100000 by omega) (by decide)) (by omega) hbase ?_
    intro v' w' h2 h3 _
    rw [← hl] at h2
    exact h v' w' h2 h3

theorem owns_form {w : World} {B n : Nat} {v : Value} {l : List Value} (h : w.ownsRow B 5 1 v n l) (hR : 0 < n) : ∃ g cap, v = .slice (some ⟨g, 0, none⟩) n cap ∧ B ≤ g ∧ g < w.heap.size ∧ n ≤ cap ∧ ∀ j u, l[j]? = some u → w.cell? ⟨g, j, none⟩ = some u := by
  rcases h.2 with ⟨_, hn⟩ | ⟨g, cap, cur, e, hB, hg, hc, hm, hs, ht⟩
  · omega
  · refine ⟨g, cap, e, hB, (Array.getElem?_eq_some_iff.1 hg).1, hc, fun j u hu => ?_⟩
    rw [cell_of_row w g j cur 5 (0, 0) hg]
    rw [← ht, List.getElem?_take] at hu
    split at hu
    · simpa using hu
    · cases hu

end Go.Proofs.YbulkbfiyFmt
