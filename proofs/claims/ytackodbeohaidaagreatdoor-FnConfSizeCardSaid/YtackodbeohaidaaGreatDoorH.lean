/-
  The lexer's small functions: pop, emit.
-/
import Derived.Test.YtackodbeohaidaaGreatDoorG
namespace Go.Cf
open Go.RowKit Go.Conc Go.Proofs
section
variable {base : Nat} {S0 : Nat → Prop} {w0 w : World} {b : Nat} {L : LX}
theorem own_open {e : TypeId} {n : Nat} {v : Value} {xs : List Value} (h : w.ownsRow base e 1 v n xs) (hn : 0 < n) :
    ∃ g cap, v = .slice (some ⟨g, 0, none⟩) n cap ∧ n ≤ cap ∧ cap ≤ maxLen ∧ (∀ j u, xs[j]? = some u → w.cell? ⟨g, j, none⟩ = some u) ∧ (∃ cur, w.heap[g]? = some (.cells cur e (0, 0))) := by
  obtain ⟨hx, ⟨_, h0⟩ | ⟨g, cap, cur, hv, _, hblk, h1, h2, h3, h4⟩⟩ := h
  · omega
  · refine ⟨g, cap, hv, h1, h2, ?_, cur, hblk⟩
    intro j u hj
    rw [blk_cell hblk, ← Array.getElem?_toList]
    rw [← h4, List.getElem?_take] at hj
    split at hj
    · exact hj
    · cases hj
theorem own_shorter {e : TypeId} {n m : Nat} {g cap : Nat} {xs ys : List Value} (h : w.ownsRow base e 1 (.slice (some ⟨g, 0, none⟩) n cap) n (xs ++ ys)) (hm : xs.length = m) (hmn : m ≤ n) : w.ownsRow base e 1 (.slice (some ⟨g, 0, none⟩) m cap) m xs := by
  obtain ⟨hx, ⟨h0, _⟩ | ⟨g', cap', cur, hv, hb, hblk, h1, h2, h3, h4⟩⟩ := h
  · cases h0
  · simp only [Value.slice.injEq, Option.some.injEq, Addr.mk.injEq] at hv
    obtain ⟨⟨rfl, _, _⟩, _, rfl⟩ := hv
    refine ⟨by omega, .inr ⟨g, cap, cur, rfl, hb, hblk, by omega, h2, h3, ?_⟩⟩
    have := congrArg (List.take (m * 1)) h4
    rw [List.take_take, Nat.min_eq_left (by omega)] at this
    rw [this, List.take_left' (by omega)]
theorem pop_c (st : List Nat) (n : Nat) (h : At base S0 w0 w b L) (hst : L.stack = st ++ [n]) (hlen : st.length ≤ 1000000) :
    Calls Tryz.prog 128 #[.pointer (some ⟨b, 0, none⟩)] w fun e w' => e = .returned (fnV n) ∧ At base S0 w0 w' b { L with stack := st } := by
  obtain ⟨S, tv, sv, pv, h1, h2, h3⟩ := h
  have c7 := h1.c7
  have f7 := h1.free 7
  have hown := h1.stack
  rw [hst, List.length_append, List.length_singleton, List.map_append] at hown
  obtain ⟨g, cap, rfl, hcap, hmx, hcell, cur, hgb⟩ := own_open hown (by omega)
  have hcl := hcell st.length (fnV n) (by simp)
  have hown2 := own_shorter (m := st.length) hown (by simp) (by omega)
  have hne : g ≠ b := by
    intro e
    rw [e, h1.blk] at hgb
    injection hgb with hgb
    injection hgb with _ h2 _
    cases h2
  have hpost : At base S0 w0 (w.setCell ⟨b, 7, none⟩ (.slice (some ⟨g, 0, none⟩) st.length cap)) b { L with stack := st } := by
    refine ⟨S, tv, .slice (some ⟨g, 0, none⟩) st.length cap, pv, ?_, h2.setCell ?_ _, ?_⟩
    · exact {
        blk := by rw [blk_setCell h1.blk]; rfl
        chan := by rw [Below.heap_setCell _ _ _ _ h1.ne_chan]; exact h1.chan
        stack := ownsRow_setCell_other hown2 (by simp only [Value.ownBlock, ne_eq, Option.some.injEq]; exact hne) _
        parts := ownsRow_setCell_other h1.parts (own_ne_blk h1.parts h1.blk (by decide)) _
        st := h1.st.far h1.blk 7 _
        hb := h1.hb
        hch := h1.hch
        hsv := h1.hsv
        hpv := h1.hpv
        base := h1.base
        stv := h1.stv }
    · rcases h3 b h1.hb with h | h
      · exact .inl h
      · exact .inr h.1
    · intro k hk
      rcases h3 k hk with h | h
      · exact .inl h
      · exact .inr ⟨h.1, by simpa using h.2⟩
  clear hcell hgb h1 h2 h3 hown hown2
  have hpos : ((st.length : Int) + 1 == 0) = false := by simp; omega
  have hc2 : st.length ≤ cap := by omega
  unfold maxLen at hmx
  go_enter Tryz.func128, Tryz.ntmps128
  go_wp2
  go_ret
  exact ⟨rfl, hpost⟩
end
end Go.Cf
