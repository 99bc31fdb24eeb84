/-
  The lexer's small functions: the closure of lexSkip, push, pop, emit.
-/
import Derived.Test.YtackodbeohaidaaGreatDoorF
import Derived.Maps.AppendAt
import Derived.Deep.AppendLies
namespace Go.Cf
open Go.RowKit Go.Conc Go.Proofs
section
variable {base : Nat} {S0 : Nat → Prop} {w0 w : World} {b : Nat} {L : LX}
theorem At.blk (h : At base S0 w0 w b L) : ∃ cs : Array Value, w.heap[b]? = some (.cells cs 109 (0, 0)) := by obtain ⟨S, tv, sv, pv, h1, _⟩ := h; exact ⟨_, h1.blk⟩
theorem skip1_c (h : At base S0 w0 w b L) (n g : Nat) (hg : w.heap[g]? = some (.cells #[fnV n] 107 (0, 0))) :
    Calls Tryz.prog 125 #[.pointer (some ⟨b, 0, none⟩), .pointer (some ⟨g, 0, none⟩)] w fun e w' => e = .returned (fnV n) ∧ At base S0 w0 w' b L.ign := by
  have hgb : g ≠ b := by
    obtain ⟨cs, hb⟩ := h.blk
    intro e
    rw [e, hb] at hg
    injection hg with hg
    injection hg with _ h2 _
    cases h2
  have hbg : b ≠ g := fun e => hgb e.symm
  have cg := blk_cell hg 0
  simp at cg
  have c1 := h.c1
  have c2 := h.c2
  have c10 := h.c10
  have c11 := h.c11
  have f1 := h.free 1
  have f11 := h.free 11
  clear hg
  go_enter Tryz.func125, Tryz.ntmps125
  go_wp2
  go_end0
  go_wp2
  go_ret
  exact ⟨rfl, At.any ((h.set (L' := { L with start := L.pos }) 1 (i64 L.pos) (fun _ _ _ => rfl) rfl rfl rfl rfl rfl rfl rfl).set (L' := L.ign) 11 (i64 L.lstart) (fun _ _ _ => rfl) rfl rfl rfl rfl rfl rfl rfl) rfl rfl rfl rfl⟩
theorem grown_ne {S : Nat → Prop} {tv sv pv : Value} {w1 : World} (h : LexAt base S w b L tv sv pv) (hg : w.grownBy w1 sv.ownBlock) : w1.heap[b]? = w.heap[b]? :=
  hg.block b (lt_of_block h.blk) (fun e => own_ne_blk h.stack h.blk (by decide) e.symm)
/-- 'append(v, x)' of one element: what is left of it. -/
theorem app_one {P : Program} {ops : Array Oper} {rest : List Oper} {o : Oper} {a : Act} {Q : Exit → Act → World → Prop} {W : World} (base : Nat) (hgd : o.guard = none) (s x : Operand) (t e : TypeId) (z : Value) (size bytes : Nat)
    (ho : o.op = .call { callee := .builtin .append, args := #[s, x], argTypes := #[t, t] })
    (ht : P.underlying t = some (.slice e)) (hinfo : (P.info? e).map (fun i => (i.zero, i.size, i.bytes)) = some (some z, size, bytes)) (hz : z.cells.size = size) (hs0 : 0 < size) (hb0 : 0 < bytes)
    (v : Value) (n : Nat) (xs ys : List Value) (hs : a.eval s = v) (hx : a.eval x = .slice (some ⟨W.heap.size, 0, none⟩) 1 1) (hys : ys.length = size) (h1 : ∀ u ∈ ys, u.oneCell' = true)
    (HO : W.ownsRow base e size v n xs) (hbase : base ≤ W.heap.size) (hl : (n + 1) * bytes ≤ 140737488355328)
    (h : ∀ v1 w1, w1.ownsRow base e size v1 (n + 1) (xs ++ ys) → W.grownBy w1 v.ownBlock → (v1.ownBlock = v.ownBlock ∨ ∃ b, v1.ownBlock = some b ∧ W.heap.size ≤ b) → wpList P ops Q rest (a.put o.dst v1) w1) :
    wpList P ops Q (o :: rest) a (W.alloc (.cells ys.toArray e)) := by
  obtain ⟨i0, hi, hzz⟩ := Option.map_eq_some_iff.1 hinfo
  simp only [Prod.mk.injEq] at hzz
  obtain ⟨hz0, hz1, hz2⟩ := hzz
  have hlen : n + 1 ≤ 140737488355328 := Nat.le_trans (Nat.le_mul_of_pos_right _ hb0) hl
  refine wpList_append_own_at (W.alloc (.cells ys.toArray e)) hgd s x t ho base e i0 z size bytes ht hi hz0 hz1 hz2 hz hs0 v n xs hs (HO.alloc _) ⟨W.heap.size, 0, none⟩ 1 1 ys hx (by rw [hys]; simp)
    (by simpa using World.news_of_block (cs := ys.toArray) (t := e) (fr := (0, 0)) (heap_alloc_new W (.cells ys.toArray e))) h1 (by simp only [maxLen]; omega) hl (by simp; omega) ?_
  intro v1 w1 hown hg _ hat
  refine h v1 w1 hown (World.grownBy.trans (World.grownBy_alloc W _ _) hg) ?_
  rcases hat with hat | hat
  · exact .inl hat
  · exact .inr ⟨_, hat, by simp⟩
theorem ownsRow_kept {w1 : World} {e : TypeId} {size n : Nat} {v : Value} {xs : List Value} {row : Option Nat} (h : w.ownsRow base e size v n xs) (hg : w.grownBy w1 row) (hne : ∀ k, v.ownBlock = some k → some k ≠ row) : w1.ownsRow base e size v n xs := by
  obtain ⟨hx, h0 | ⟨g, cap, cur, hv, hbg, hblk, hrest⟩⟩ := h
  · exact ⟨hx, .inl h0⟩
  · exact ⟨hx, .inr ⟨g, cap, cur, hv, hbg, (hg.block g (lt_of_block hblk) (hne g (by rw [hv]; rfl))).trans hblk, hrest⟩⟩
/-- The stack's row was appended to. -/
theorem LexAt.pushed {S : Nat → Prop} {tv sv pv sv' : Value} {w1 : World} {n : Nat} (h : LexAt base S w b L tv sv pv) (hg : w.grownBy w1 sv.ownBlock) (hown : w1.ownsRow base 107 1 sv' (L.stack.length + 1) (L.stack.map fnV ++ [fnV n]))
    (hat : sv'.ownBlock = sv.ownBlock ∨ ∃ k, sv'.ownBlock = some k ∧ w.heap.size ≤ k) :
    LexAt base (fun k => S k ∨ (w.heap.size ≤ k ∧ k < w1.heap.size)) (w1.setCell ⟨b, 7, none⟩ sv') b { L with stack := L.stack ++ [n] } tv sv' pv where
  blk := by
    have h1 : w1.heap[b]? = some (.cells (L.cells tv sv pv) 109 (0, 0)) := (grown_ne h hg).trans h.blk
    rw [blk_setCell h1]; rfl
  chan := by
    rw [Below.heap_setCell _ _ _ _ h.ne_chan]
    refine (hg.block L.ch (lt_of_block h.chan) ?_).trans h.chan
    intro e
    obtain ⟨_, ⟨h0, _⟩ | ⟨g, cap, cur, hv, _, hblk, _⟩⟩ := h.stack
    · rw [h0] at e; cases e
    · rw [hv] at e
      simp only [Value.ownBlock, Option.some.injEq] at e
      subst e
      rw [h.chan] at hblk
      cases hblk
  stack := by
    have h1 : w1.heap[b]? = some (.cells (L.cells tv sv pv) 109 (0, 0)) := (grown_ne h hg).trans h.blk
    have h2 := ownsRow_setCell_other hown (a := ⟨b, 7, none⟩) (own_ne_blk hown h1 (by decide)) sv'
    simpa using h2
  parts := by
    have hne : ∀ k, pv.ownBlock = some k → some k ≠ sv.ownBlock := by
      intro k hk e
      obtain ⟨_, ⟨h0, _⟩ | ⟨g, cap, cur, hv, _, hblk, _⟩⟩ := h.stack
      · rw [h0] at e; cases e
      · rw [hv] at e
        simp only [Value.ownBlock, Option.some.injEq] at e
        subst e
        exact own_ne_blk h.parts hblk (by decide) hk
    have hp1 := ownsRow_kept h.parts hg hne
    have h1 : w1.heap[b]? = some (.cells (L.cells tv sv pv) 109 (0, 0)) := (grown_ne h hg).trans h.blk
    exact ownsRow_setCell_other hp1 (a := ⟨b, 7, none⟩) (own_ne_blk hp1 h1 (by decide)) sv'
  st := by
    have h1 : w1.heap[b]? = some (.cells (L.cells tv sv pv) 109 (0, 0)) := (grown_ne h hg).trans h.blk
    refine RepV.far ?_ h1 7 sv'
    match ht : L.state, h.st with
    | none, h => exact h
    | some (false, n), h => exact h
    | some (true, m), ⟨g, hv, hgb, hs⟩ =>
      refine ⟨g, hv, (hg.block g (lt_of_block hgb) ?_).trans hgb, .inl hs⟩
      intro e
      exact h.stv g e m ht hv
  hb := .inl h.hb
  hch := .inl h.hch
  hsv := by
    intro k hk
    rcases hat with h1 | ⟨k', h1, h2⟩
    · exact .inl (h.hsv k (by rw [← h1]; exact hk))
    · rw [hk] at h1; cases h1
      refine .inr ⟨h2, ?_⟩
      obtain ⟨_, ⟨h0, _⟩ | ⟨g, cap, cur, hv, _, hblk, _⟩⟩ := hown
      · rw [h0] at hk; cases hk
      · rw [hv] at hk; simp only [Value.ownBlock, Option.some.injEq] at hk; subst hk; exact lt_of_block hblk
  hpv := fun k hk => .inl (h.hpv k hk)
  base := h.base
  stv := by
    intro g hg2 m hm
    rcases hat with h1 | ⟨k', h1, h2⟩
    · exact h.stv g (by rw [← h1]; exact hg2) m hm
    · intro e
      have hst := h.st
      rw [show L.state = some (true, m) from hm] at hst
      obtain ⟨g', hv', hgb, _⟩ := hst
      rw [e] at hv'
      rw [← hg2] at h1
      injection hv' with _ _ hv'
      simp at hv' h1
      have := lt_of_block hgb
      omega
theorem push_c (h : At base S0 w0 w b L) (n : Nat) (hst : L.stack.length ≤ 1000000) :
    Calls Tryz.prog 88 #[.pointer (some ⟨b, 0, none⟩), fnV n] w fun e w' => e = .returned (.tuple #[]) ∧ At base S0 w0 w' b { L with stack := L.stack ++ [n] } := by
  obtain ⟨S, tv, sv, pv, h1, h2, h3⟩ := h
  have c7 := h1.c7
  have f7 := h1.free 7
  have hbl := lt_of_block h1.blk
  have hown := h1.stack
  have hbase := h1.base
  have hbs := own_ne_blk h1.stack h1.blk (by decide)
  have hlen : (L.stack.length + 1) * 8 ≤ 140737488355328 := by omega
  go_enter Tryz.func88, Tryz.ntmps88
  go_wp2_with (at_builtin; refine app_one base rfl _ _ 106 107 .nilFunc 1 8 rfl Tryz.underlying106 info107 rfl (by decide) (by decide) sv L.stack.length (L.stack.map fnV) [fnV n] rfl rfl rfl (by simp [fnV]; rfl) hown (by omega) hlen ?_)
  intro sv' w1 hown1 hg1 hat1
  have hc7 : w1.cell? ⟨b, 7, none⟩ = some sv := blk_cell ((grown_ne h1 hg1).trans h1.blk) 7
  have hf7 : w1.frozen? ⟨b, 7, none⟩ = false := blk_free ((grown_ne h1 hg1).trans h1.blk) 7
  have K := h1.pushed hg1 hown1 hat1
  have KF : Fr S0 w0 (w1.setCell ⟨b, 7, none⟩ sv') := by
    refine (h2.grown hg1 ?_).setCell ?_ _
    · intro k hk
      rcases h3 k (h1.hsv k hk) with h | h
      · exact .inl h
      · exact .inr h.1
    · rcases h3 b h1.hb with h | h
      · exact .inl h
      · exact .inr h.1
  have KS : ∀ k, (S k ∨ (w.heap.size ≤ k ∧ k < w1.heap.size)) → S0 k ∨ (w0.heap.size ≤ k ∧ k < (w1.setCell ⟨b, 7, none⟩ sv').heap.size) := by
    intro k hk
    have := hg1.size
    have := h2.size
    rw [World.size_setCell]
    rcases hk with hk | hk
    · rcases h3 k hk with h | h
      · exact .inl h
      · exact .inr ⟨h.1, by omega⟩
    · exact .inr ⟨by omega, hk.2⟩
  have KK := At.grow K KF KS
  obtain ⟨X, hX⟩ : ∃ X, X = (At base S0 w0 (w1.setCell ⟨b, 7, none⟩ sv') b { L with stack := L.stack ++ [n] }) := ⟨_, rfl⟩
  rw [← hX] at KK
  have HX := Lib.hid hX
  obtain ⟨A7, C7, e7⟩ : ∃ A c, sv' = .slice A (L.stack.length + 1) c := by
    obtain ⟨_, ⟨h0, hz⟩ | ⟨g, cap, cur, hv, _⟩⟩ := hown1
    · exact absurd hz (by omega)
    · exact ⟨_, _, hv⟩
  clear hX hown1 hg1 hat1 K KF KS h1 h2 h3 hown c7 f7 hbs
  rw [e7] at HX
  subst e7
  go_wp2
  go_end0
  exact ⟨rfl, by rw [← HX.out]; exact KK⟩
end
end Go.Cf
