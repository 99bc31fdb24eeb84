/-
  The lexer's small functions: peek, lexSkip, push, pop.
-/
import Derived.Test.YtackodbeohaidaaGreatDoorE
namespace Go.Cf
open Go.RowKit Go.Conc Go.Proofs
theorem info107 : (Tryz.prog.info? 107).map (fun i => (i.zero, i.size, i.bytes)) = some (some .nilFunc, 1, 8) := by kernel_rfl
section
variable {base : Nat} {S0 : Nat → Prop} {w0 w : World} {b : Nat} {L : LX}
theorem peek_c (h : At base S0 w0 w b L) (ok : L.Ok) :
    Calls Tryz.prog 135 #[.pointer (some ⟨b, 0, none⟩)] w fun e w' => e = .returned (.int .i32 L.chr) ∧ At base S0 w0 w' b L.pk := by
  go_enter Tryz.func135, Tryz.ntmps135
  go_wp2_with fail
  refine (next_c h ok).mono ?_
  rintro e w1 ⟨rfl, h1⟩
  go_wp2_with fail
  refine (back_c h1 ok.nxt (nxt_width L)).mono ?_
  rintro e w2 ⟨rfl, h2⟩
  rw [nxt_back] at h2
  go_wp2_with fail
  go_ret
  exact ⟨rfl, h2⟩
/-- At, with the blocks told. -/
theorem At.grow {S : Nat → Prop} {tv sv pv : Value} (h1 : LexAt base S w b L tv sv pv) (h2 : Fr S0 w0 w) (h3 : ∀ k, S k → S0 k ∨ (w0.heap.size ≤ k ∧ k < w.heap.size)) : At base S0 w0 w b L := ⟨S, tv, sv, pv, h1, h2, h3⟩
theorem LexAt.blk_lt {S : Nat → Prop} {tv sv pv : Value} (h : LexAt base S w b L tv sv pv) : b < w.heap.size := lt_of_block h.blk
/-- What a call keeps that lays new blocks alone. -/
theorem RepV.below {S : Nat → Prop} {w1 : World} {v : Value} {t : Tag} (h : RepV S w v t) (hb : Below w.heap.size w w1) : RepV S w1 v t := by
  match t, h with
  | none, h => exact h
  | some (false, n), h => exact h
  | some (true, n), ⟨g, hv, hg, hs⟩ => exact ⟨g, hv, (hb.block g (lt_of_block hg)).trans hg, hs⟩
theorem ownsRow_below {w1 : World} {e : TypeId} {size n : Nat} {v : Value} {xs : List Value} (h : w.ownsRow base e size v n xs) (hb : Below w.heap.size w w1) : w1.ownsRow base e size v n xs := by
  obtain ⟨hx, h0 | ⟨g, cap, cur, hv, hbg, hblk, hrest⟩⟩ := h
  · exact ⟨hx, .inl h0⟩
  · exact ⟨hx, .inr ⟨g, cap, cur, hv, hbg, (hb.block g (lt_of_block hblk)).trans hblk, hrest⟩⟩
theorem LexAt.below {S : Nat → Prop} {tv sv pv : Value} {w1 : World} (h : LexAt base S w b L tv sv pv) (hb : Below w.heap.size w w1) : LexAt base S w1 b L tv sv pv where
  blk := (hb.block b (lt_of_block h.blk)).trans h.blk
  chan := (hb.block L.ch (lt_of_block h.chan)).trans h.chan
  stack := ownsRow_below h.stack hb
  parts := ownsRow_below h.parts hb
  st := h.st.below hb
  hb := h.hb
  hch := h.hch
  hsv := h.hsv
  hpv := h.hpv
  base := h.base
  stv := h.stv
theorem At.below {w1 : World} (h : At base S0 w0 w b L) (hb : Below w.heap.size w w1) : At base S0 w0 w1 b L := by
  obtain ⟨S, tv, sv, pv, h1, h2, h3⟩ := h
  refine ⟨S, tv, sv, pv, h1.below hb, h2.trans (Fr.below hb (fun _ => False)) (fun _ h => h.elim), ?_⟩
  intro k hk
  rcases h3 k hk with h | h
  · exact .inl h
  · exact .inr ⟨h.1, Nat.lt_of_lt_of_le h.2 hb.size⟩
theorem skip_c (h : At base S0 w0 w b L) (n : Nat) :
    Calls Tryz.prog 87 #[.pointer (some ⟨b, 0, none⟩), fnV n] w fun e w' => e = .returned (.func (.func 125) #[] #[.pointer (some ⟨w.heap.size, 0, none⟩)]) ∧ w'.heap[w.heap.size]? = some (.cells #[fnV n] 107 (0, 0)) ∧ w'.heap.size = w.heap.size + 1 ∧ At base S0 w0 w' b L := by
  go_enter Tryz.func87, Tryz.ntmps87
  go_wp2
  go_ret
  exact ⟨rfl, heap_alloc_new w _, by simp, h.below ((Below.refl _ _).alloc (Nat.le_refl _) _)⟩
end
end Go.Cf
