/-
  A state function's contract: what it comes to, and the next state's value.
-/
import Derived.Test.YtackodbeohaidaaGreatDoorI
namespace Go.Cf
open Go.RowKit Go.Conc Go.Proofs
abbrev clo (g : Nat) : Value := .func (.func 125) #[] #[.pointer (some ⟨g, 0, none⟩)]
/-- At, and v is the value of the state t. -/
def AtV (base : Nat) (S0 : Nat → Prop) (w0 w : World) (b : Nat) (L : LX) (v : Value) (t : Tag) : Prop :=
  ∃ S tv sv pv, LexAt base S w b L tv sv pv ∧ Fr S0 w0 w ∧ (∀ k, S k → S0 k ∨ (w0.heap.size ≤ k ∧ k < w.heap.size)) ∧ RepV S w v t ∧ ∀ g, some g = sv.ownBlock → v ≠ clo g
def LX.psh (L : LX) (n : Nat) : LX := { L with stack := L.stack ++ [n] }
def LX.stk (L : LX) (st : List Nat) : LX := { L with stack := st }
def LX.ssfn (L : LX) (n : Nat) : LX := { L with ssf := some n }
def LX.goes (L : LX) (t : Tag) : LX := { L with state := t }
section
variable {base : Nat} {S0 : Nat → Prop} {w0 w : World} {b : Nat} {L : LX}
theorem At.plain (h : At base S0 w0 w b L) (n : Nat) : AtV base S0 w0 w b L (fnV n) (some (false, n)) := by
  obtain ⟨S, tv, sv, pv, h1, h2, h3⟩ := h
  exact ⟨S, tv, sv, pv, h1, h2, h3, rfl, fun g _ e => by simp [fnV, clo] at e⟩
theorem At.nil (h : At base S0 w0 w b L) : AtV base S0 w0 w b L .nilFunc none := by
  obtain ⟨S, tv, sv, pv, h1, h2, h3⟩ := h
  exact ⟨S, tv, sv, pv, h1, h2, h3, rfl, fun g _ e => by simp [clo] at e⟩
theorem own_lt {base : Nat} {e : TypeId} {size n : Nat} {v : Value} {xs : List Value} (h : w.ownsRow base e size v n xs) (k : Nat) (hk : v.ownBlock = some k) : k < w.heap.size := by
  obtain ⟨_, ⟨h0, _⟩ | ⟨g, cap, cur, hv, _, hblk, _⟩⟩ := h
  · rw [h0] at hk; cases hk
  · rw [hv] at hk; simp only [Value.ownBlock, Option.some.injEq] at hk; subst hk; exact lt_of_block hblk
theorem LexAt.wide {S S' : Nat → Prop} {tv sv pv : Value} (h : LexAt base S w b L tv sv pv) (hS : ∀ k, S k → S' k) : LexAt base S' w b L tv sv pv where
  blk := h.blk
  chan := h.chan
  stack := h.stack
  parts := h.parts
  st := match L.state, h.st with
    | none, h => h
    | some (false, _), h => h
    | some (true, _), ⟨g, hv, hg, hs⟩ => ⟨g, hv, hg, hS _ hs⟩
  hb := hS _ h.hb
  hch := hS _ h.hch
  hsv := fun k hk => hS _ (h.hsv k hk)
  hpv := fun k hk => hS _ (h.hpv k hk)
  base := h.base
  stv := h.stv
theorem skipV_c (h : At base S0 w0 w b L) (n : Nat) :
    Calls Tryz.prog 87 #[.pointer (some ⟨b, 0, none⟩), fnV n] w fun e w' => e = .returned (clo w.heap.size) ∧ AtV base S0 w0 w' b L (clo w.heap.size) (some (true, n)) := by
  have hpost : AtV base S0 w0 (w.alloc (.cells #[fnV n] 107)) b L (clo w.heap.size) (some (true, n)) := by
    obtain ⟨S, tv, sv, pv, h1, h2, h3⟩ := h
    have hbl : Below w.heap.size w (w.alloc (.cells #[fnV n] 107)) := (Below.refl _ _).alloc (Nat.le_refl _) _
    refine ⟨fun k => S k ∨ k = w.heap.size, tv, sv, pv, (h1.below hbl).wide (fun _ h => .inl h), h2.alloc _, ?_, ⟨_, rfl, heap_alloc_new w _, .inr rfl⟩, ?_⟩
    · intro k hk
      have := h2.size
      rw [World.size_alloc]
      rcases hk with hk | rfl
      · rcases h3 k hk with h | h
        · exact .inl h
        · exact .inr ⟨h.1, by omega⟩
      · exact .inr ⟨this, by omega⟩
    · intro g hg e
      have := own_lt h1.stack g hg.symm
      simp only [clo, Value.func.injEq] at e
      simp at e
  go_enter Tryz.func87, Tryz.ntmps87
  go_wp2
  go_ret
  exact ⟨rfl, hpost⟩
theorem RepV.set {S : Nat → Prop} {tv sv pv v : Value} {t : Tag} (h : RepV S w v t) (h1 : LexAt base S w b L tv sv pv) (i : Nat) (u : Value) : RepV S (w.setCell ⟨b, i, none⟩ u) v t := h.far h1.blk i u
/-- The next state is stored. -/
theorem AtV.store {v : Value} {t : Tag} (h : AtV base S0 w0 w b L v t) : At base S0 w0 (w.setCell ⟨b, 5, none⟩ v) b (L.goes t) := by
  obtain ⟨S, tv, sv, pv, h1, h2, h3, h4, h5⟩ := h
  refine ⟨S, v, sv, pv, ?_, h2.setCell ?_ _, ?_⟩
  · exact {
      blk := by rw [blk_setCell h1.blk]; rfl
      chan := by rw [Below.heap_setCell _ _ _ _ h1.ne_chan]; exact h1.chan
      stack := ownsRow_setCell_other h1.stack (own_ne_blk h1.stack h1.blk (by decide)) _
      parts := ownsRow_setCell_other h1.parts (own_ne_blk h1.parts h1.blk (by decide)) _
      st := h4.set h1 5 _
      hb := h1.hb
      hch := h1.hch
      hsv := h1.hsv
      hpv := h1.hpv
      base := h1.base
      stv := fun g hg n hn => h5 g hg }
  · rcases h3 b h1.hb with h | h
    · exact .inl h
    · exact .inr h.1
  · intro k hk
    rcases h3 k hk with h | h
    · exact .inl h
    · exact .inr ⟨h.1, by simpa using h.2⟩
theorem AtV.at_ {v : Value} {t : Tag} (h : AtV base S0 w0 w b L v t) : At base S0 w0 w b L := by
  obtain ⟨S, tv, sv, pv, h1, h2, h3, _⟩ := h; exact ⟨S, tv, sv, pv, h1, h2, h3⟩
end
theorem nxt_same (L : LX) : L.nxt.stack = L.stack ∧ L.nxt.parts = L.parts ∧ L.nxt.q = L.q ∧ L.nxt.start = L.start ∧ L.nxt.inp = L.inp ∧ L.nxt.ilstart = L.ilstart ∧ L.nxt.ssf = L.ssf ∧ L.nxt.state = L.state := by
  unfold LX.nxt
  split
  · simp
  · split <;> simp
theorem pk_same (L : LX) : L.pk.stack = L.stack ∧ L.pk.parts = L.parts ∧ L.pk.q = L.q ∧ L.pk.start = L.start ∧ L.pk.inp = L.inp ∧ L.pk.ilstart = L.ilstart ∧ L.pk.ssf = L.ssf ∧ L.pk.state = L.state ∧ L.pk.pos = L.pos ∧ L.pk.line = L.line := by
  unfold LX.pk
  split
  · simp
  · split <;> simp
theorem nxt_stack (L : LX) : L.nxt.stack = L.stack := (nxt_same L).1
theorem pk_stack (L : LX) : L.pk.stack = L.stack := (pk_same L).1
theorem nxt_parts (L : LX) : L.nxt.parts = L.parts := (nxt_same L).2.1
theorem pk_parts (L : LX) : L.pk.parts = L.parts := (pk_same L).2.1
theorem nxt_q (L : LX) : L.nxt.q = L.q := (nxt_same L).2.2.1
theorem pk_q (L : LX) : L.pk.q = L.q := (pk_same L).2.2.1
theorem nxt_start (L : LX) : L.nxt.start = L.start := (nxt_same L).2.2.2.1
theorem pk_start (L : LX) : L.pk.start = L.start := (pk_same L).2.2.2.1
theorem pk_pos (L : LX) : L.pk.pos = L.pos := (pk_same L).2.2.2.2.2.2.2.2.1
theorem nxt_pos (L : LX) : L.nxt.pos = if L.inp.size ≤ L.pos then L.pos else L.pos + 1 := by
  unfold LX.nxt
  split
  · rfl
  · split <;> rfl
/-- Function f of the lexer's states: from L it comes to L', and the next state is t. -/
def Goes1 (f : Nat) (L L' : LX) (t : Tag) : Prop :=
  ∀ (base : Nat) (S0 : Nat → Prop) (w0 w : World) (b : Nat), At base S0 w0 w b L →
    Calls Tryz.prog f #[.pointer (some ⟨b, 0, none⟩)] w fun e w' => ∃ v, e = .returned v ∧ AtV base S0 w0 w' b L' v t
/-- What else is asked of a lexer that hands an item on. -/
structure LX.Rdy (L : LX) : Prop where
  parts : L.parts = []
  start : L.start ≤ L.pos
  q : L.q.length < 10
theorem LX.Ok.psh {L : LX} (ok : L.Ok) (n : Nat) : (L.psh n).Ok := ⟨ok.small, ok.pos, ok.start, ok.width, ok.lstart, ok.ilstart, ok.line, ok.asc⟩
theorem LX.Ok.stk {L : LX} (ok : L.Ok) (n : List Nat) : (L.stk n).Ok := ⟨ok.small, ok.pos, ok.start, ok.width, ok.lstart, ok.ilstart, ok.line, ok.asc⟩
theorem LX.Ok.ssfn {L : LX} (ok : L.Ok) (n : Nat) : (L.ssfn n).Ok := ⟨ok.small, ok.pos, ok.start, ok.width, ok.lstart, ok.ilstart, ok.line, ok.asc⟩
theorem LX.Ok.goes {L : LX} (ok : L.Ok) (t : Tag) : (L.goes t).Ok := ⟨ok.small, ok.pos, ok.start, ok.width, ok.lstart, ok.ilstart, ok.line, ok.asc⟩
theorem LX.Ok.emit {L : LX} (ok : L.Ok) (t : Nat) (v : ByteArray) : (L.emit t v).Ok := ⟨ok.small, ok.pos, ok.pos, ok.width, ok.lstart, ok.lstart, ok.line, ok.asc⟩
end Go.Cf
