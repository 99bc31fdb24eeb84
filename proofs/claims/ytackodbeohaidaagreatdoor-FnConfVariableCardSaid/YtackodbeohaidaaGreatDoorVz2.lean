/-
  Texts joined: I J L M Bld Bl N O P Q.
-/
import Derived.Test.YtackodbeohaidaaGreatDoorVz1
import Derived.Laws.Rows
import Derived.Maps.OwnSet
import Derived.Deep.AppendLies
/-
  The lexer hands an item on: emit.
-/
namespace Go.Cf
open Go.RowKit Go.Conc Go.Proofs
theorem join_nil (A : Option Addr) (c : Nat) (w : World) : Calls Tryz.prog 132 #[.slice A 0 c, .string ByteArray.empty] w fun e w' => e = .returned (.string ByteArray.empty) ∧ w' = w := by
  go_enter Tryz.func132, Tryz.ntmps132
  go_wp2
  go_ret
  exact ⟨rfl, rfl⟩
/-- An item is handed on. -/
def LX.emit (L : LX) (t : Nat) (v : ByteArray) : LX :=
  { L with q := L.q ++ [⟨t, v, L.line, (L.pos : Int) - L.ilstart - v.size⟩], cs := L.cs + 1, start := L.pos, ilstart := L.lstart }
def LX.txt (L : LX) : ByteArray := L.inp.extract L.start L.pos
section
variable {base : Nat} {S0 : Nat → Prop} {w0 w : World} {b : Nat} {L : LX}
theorem RepV.chan {S : Nat → Prop} {v : Value} {t : Tag} {c : Nat} {buf : Array Value} {cap s r : Nat} {cl tm : Bool} (h : RepV S w v t) (hc : w.heap[c]? = some (.chan cap buf cl s r tm)) (cap' : Nat) (buf' : Array Value) (cl' : Bool) (s' r' : Nat) (tm' : Bool) : RepV S (w.setChan c cap' buf' cl' s' r' tm') v t := by
  match t, h with
  | none, h => exact h
  | some (false, n), h => exact h
  | some (true, n), ⟨g, hv, hg, hs⟩ =>
    refine ⟨g, hv, ?_, hs⟩
    simp only [World.setChan]
    rw [Array.getElem?_setIfInBounds_ne]
    · exact hg
    · intro e; rw [← e, hc] at hg; cases hg
theorem ownsRow_chan {e : TypeId} {size n : Nat} {v : Value} {xs : List Value} {c : Nat} {buf : Array Value} {cap s r : Nat} {cl tm : Bool} (h : w.ownsRow base e size v n xs) (hc : w.heap[c]? = some (.chan cap buf cl s r tm)) (cap' : Nat) (buf' : Array Value) (cl' : Bool) (s' r' : Nat) (tm' : Bool) : (w.setChan c cap' buf' cl' s' r' tm').ownsRow base e size v n xs := by
  obtain ⟨hx, h0 | ⟨g, cap, cur, hv, hbg, hblk, hrest⟩⟩ := h
  · exact ⟨hx, .inl h0⟩
  · refine ⟨hx, .inr ⟨g, cap, cur, hv, hbg, ?_, hrest⟩⟩
    simp only [World.setChan]
    rw [Array.getElem?_setIfInBounds_ne]
    · exact hblk
    · intro e; rw [← e, hc] at hblk; cases hblk
/-- The channel of items turns. -/
theorem At.chan (h : At base S0 w0 w b L) (q : List It) (cs cr : Nat) : At base S0 w0 (w.setChan L.ch 10 (q.map It.v).toArray false cs cr false) b { L with q := q, cs := cs, cr := cr } := by
  obtain ⟨S, tv, sv, pv, h1, h2, h3⟩ := h
  refine ⟨S, tv, sv, pv, ?_, h2.setChan ?_ _ _ _ _ _ _, ?_⟩
  · exact {
      blk := by simp only [World.setChan]; rw [Array.getElem?_setIfInBounds_ne h1.ne_chan]; exact h1.blk
      chan := heap_setChan _ _ _ _ _ _ _ _ (lt_of_block h1.chan)
      stack := ownsRow_chan h1.stack h1.chan _ _ _ _ _ _
      parts := ownsRow_chan h1.parts h1.chan _ _ _ _ _ _
      st := h1.st.chan h1.chan _ _ _ _ _ _
      hb := h1.hb
      hch := h1.hch
      hsv := h1.hsv
      hpv := h1.hpv
      base := h1.base
      stv := h1.stv }
  · rcases h3 L.ch h1.hch with h | h
    · exact .inl h
    · exact .inr h.1
  · intro k hk
    rcases h3 k hk with h | h
    · exact .inl h
    · exact .inr ⟨h.1, by rw [size_setChan]; exact h.2⟩
theorem At.heapCh (h : At base S0 w0 w b L) : w.heap[L.ch]? = some (.chan 10 (L.q.map It.v).toArray false L.cs L.cr false) := by obtain ⟨S, tv, sv, pv, h1, _⟩ := h; exact h1.chan
theorem At.pv (h : At base S0 w0 w b L) (hp : L.parts = []) : ∃ A c, w.cell? ⟨b, 8, none⟩ = some (.slice A 0 c) := by
  obtain ⟨S, tv, sv, pv, h1, _⟩ := h
  have hc := h1.c8
  obtain ⟨_, ⟨rfl, _⟩ | ⟨g, cap, cur, rfl, _⟩⟩ := h1.parts
  · exact ⟨none, 0, hc⟩
  · rw [hp] at hc; exact ⟨_, _, hc⟩
/-- The walk goes on at a world of which only what the lexer is there is known. -/
theorem via {P : Program} {c : Code} {Q : Exit → Act → World → Prop} {a : Act} {w' : World} {L' : LX} (h : At base S0 w0 w' b L') (k : ∀ W, At base S0 w0 W b L' → c.wp P Q a W) : c.wp P Q a w' := k _ h
theorem wpN_send {P : Program} {Q : Exit → Act → World → Prop} {id : Nat} {a : Act} {l : List Oper} (n : Nat) (hm : P.follows .mixedOrders = true) (hB : sendOk l n = true)
    (h : wpStill P (unsent l n).toArray w.drew (fun a' => Lst P l.toArray Q [n] a' w.drew) (unsent l n) a) : wpN P (.region id l.toArray true) Q a w := wpN_still_send n hm hB h
set_option maxRecDepth 100000 in
set_option maxHeartbeats 800000 in
theorem emit_c (t : Nat) (h : At base S0 w0 w b L) (ok : L.Ok) (hp : L.parts = []) (hs : L.start ≤ L.pos) (hq : L.q.length < 10) :
    Calls Tryz.prog 93 #[.pointer (some ⟨b, 0, none⟩), i64 t] w fun e w' => e = .returned (.tuple #[]) ∧ At base S0 w0 w' b (L.emit t L.txt) := by
  obtain ⟨A8, c8n, c8⟩ := h.pv hp
  have c0 := h.c0
  have c1 := h.c1
  have c2 := h.c2
  have c4 := h.c4
  have c6 := h.c6
  have c10 := h.c10
  have c11 := h.c11
  have f1 := h.free 1
  have f11 := h.free 11
  have hsm := ok.small
  have hpp := ok.pos
  have hil := ok.ilstart
  have hl0 := ok.line0
  have hl1 := ok.line1
  have hxs : (L.inp.extract L.start L.pos).size ≤ 1000000 := by simp; omega
  have HQ := Lib.hid hq
  have HP := Lib.hid hp
  clear hq hp
  refine calls_of_wpN Tryz.func93 rfl ?_
  simp only [Tryz.ntmps93, List.size_toArray, List.length_cons, List.length_nil, Nat.reduceAdd, Nat.reduceSub, Array.replicate_succ, Array.replicate_zero, List.push_toArray, List.append_toArray, List.nil_append, List.cons_append]
  refine wpN_seq_k (fun K hK => ?_)
  go_quiet ((go_at_call 132; exact Calls.quiet_of_same (join_nil _ _ _)))
  go_wp2
  refine wpN_seq_k (fun K hK => ?_)
  go_quiet (fail)
  go_wp2
  refine wpN_seq (wpN_send 12 mixed (by kernel_rfl) ?_)
  simp only [unsent, List.modify_succ_cons, List.modify_zero_cons]
  repeat still_step
  refine wpStill_nil ?_
  refine Lst.send (c := L.ch) (cap := 10) (buf := (L.q.map It.v).toArray) (s := L.cs) (r := L.cr) (tm := false) (z := .tuple #[]) (v := .agg #[i64 t, .string (L.inp.extract L.start L.pos), i64 L.line, i64 ((L.pos : Int) - L.ilstart - ((L.pos - L.start : Nat) : Int))]) rfl rfl rfl h.heapCh (by simpa using HQ.out) ?_
  refine Lst.nil ?_
  have hsz : (L.txt.size : Int) = ((L.pos - L.start : Nat) : Int) := by unfold LX.txt; simp; omega
  have hv : It.v ⟨t, L.txt, L.line, (L.pos : Int) - L.ilstart - L.txt.size⟩ = .agg #[i64 t, .string (L.inp.extract L.start L.pos), i64 L.line, i64 ((L.pos : Int) - L.ilstart - ((L.pos - L.start : Nat) : Int))] := by rw [hsz]; rfl
  have hC := h.chan (L.q ++ [⟨t, L.txt, L.line, (L.pos : Int) - L.ilstart - L.txt.size⟩]) (L.cs + 1) L.cr
  rw [List.map_append, List.map_singleton, hv, ← List.push_toArray] at hC
  simp only [Exit.then]
  refine wpN_of_wp (via (At.any hC rfl rfl rfl rfl) (fun W h2 => ?_))
  clear c0 c1 c2 c4 c6 c8 c10 c11 f1 f11 hC hv hsz hxs
  have c1 := h2.c1
  have c2 := h2.c2
  have c10 := h2.c10
  have c11 := h2.c11
  have f1 := h2.free 1
  have f11 := h2.free 11
  go_wp2
  go_end0
  exact ⟨rfl, At.any ((h2.set (L' := { L with q := L.q ++ [⟨t, L.txt, L.line, (L.pos : Int) - L.ilstart - L.txt.size⟩], cs := L.cs + 1, start := L.pos }) 1 (i64 L.pos) (fun _ _ _ => rfl) rfl rfl rfl rfl rfl rfl rfl).set (L' := L.emit t L.txt) 11 (i64 L.lstart) (fun _ _ _ => rfl) rfl rfl rfl rfl rfl rfl rfl) rfl rfl rfl rfl⟩
end
end Go.Cf

/-
  A state function's contract: what it comes to, and the next state's value.
-/
namespace Go.Cf
open Go.RowKit Go.Conc Go.Proofs
abbrev clo (g : Nat) : Value := .func (.func 125) #[] #[.pointer (some ⟨g, 0, none⟩)]
/-- At, and v is the value of the state t. -/
def AtV (base : Nat) (S0 : Nat → Prop) (w0 w : World) (b : Nat) (L : LX) (v : Value) (t : Tag) : Prop :=
  ∃ S tv sv pv, LexAt base S w b L tv sv pv ∧ Fr S0 w0 w ∧ (∀ k, S k → S0 k ∨ (w0.heap.size ≤ k ∧ k < w.heap.size)) ∧ RepV S w v t ∧ ∀ g, some g = sv.ownBlock → v ≠ clo g
def LX.psh (L : LX) (n : Nat) : LX := { L with stack := L.stack ++ [n] }
def LX.stk (L : LX) (st : List Nat) : LX := { L with stack := st }
def LX.goes (L : LX) (t : Tag) : LX := { L with state := t }
section
variable {base : Nat} {S0 : Nat → Prop} {w0 w : World} {b : Nat} {L : LX}
theorem At.plain (h : At base S0 w0 w b L) (n : Nat) : AtV base S0 w0 w b L (fnV n) (some (false, n)) := by
  obtain ⟨S, tv, sv, pv, h1, h2, h3⟩ := h
  exact ⟨S, tv, sv, pv, h1, h2, h3, rfl, fun g _ e => by simp [fnV, clo] at e⟩
theorem At.nil (h : At base S0 w0 w b L) : AtV base S0 w0 w b L .nilFunc none := by
  obtain ⟨S, tv, sv, pv, h1, h2, h3⟩ := h
  exact ⟨S, tv, sv, pv, h1, h2, h3, rfl, fun g _ e => by simp [clo] at e⟩
theorem own_lt {base : Nat} {e : TypeId} {size n : Nat} {v : Value} {xs : List Value} (h : w.ownsRow base e size v n xs) (k : Nat) (hk : v.ownBlock = some k) : k < w.heap.size := by
  obtain ⟨_, ⟨h0, _⟩ | ⟨g, cap, cur, hv, _, hblk, _⟩⟩ := h
  · rw [h0] at hk; cases hk
  · rw [hv] at hk; simp only [Value.ownBlock, Option.some.injEq] at hk; subst hk; exact lt_of_block hblk
theorem LexAt.wide {S S' : Nat → Prop} {tv sv pv : Value} (h : LexAt base S w b L tv sv pv) (hS : ∀ k, S k → S' k) : LexAt base S' w b L tv sv pv where
  blk := h.blk
  chan := h.chan
  stack := h.stack
  parts := h.parts
  st := match L.state, h.st with
    | none, h => h
    | some (false, _), h => h
    | some (true, _), ⟨g, hv, hg, hs⟩ => ⟨g, hv, hg, hS _ hs⟩
  hb := hS _ h.hb
  hch := hS _ h.hch
  hsv := fun k hk => hS _ (h.hsv k hk)
  hpv := fun k hk => hS _ (h.hpv k hk)
  base := h.base
  stv := h.stv
theorem skipV_c (h : At base S0 w0 w b L) (n : Nat) :
    Calls Tryz.prog 87 #[.pointer (some ⟨b, 0, none⟩), fnV n] w fun e w' => e = .returned (clo w.heap.size) ∧ AtV base S0 w0 w' b L (clo w.heap.size) (some (true, n)) := by
  have hpost : AtV base S0 w0 (w.alloc (.cells #[fnV n] 107)) b L (clo w.heap.size) (some (true, n)) := by
    obtain ⟨S, tv, sv, pv, h1, h2, h3⟩ := h
    have hbl : Below w.heap.size w (w.alloc (.cells #[fnV n] 107)) := (Below.refl _ _).alloc (Nat.le_refl _) _
    refine ⟨fun k => S k ∨ k = w.heap.size, tv, sv, pv, (h1.below hbl).wide (fun _ h => .inl h), h2.alloc _, ?_, ⟨_, rfl, heap_alloc_new w _, .inr rfl⟩, ?_⟩
    · intro k hk
      have := h2.size
      rw [World.size_alloc]
      rcases hk with hk | rfl
      · rcases h3 k hk with h | h
        · exact .inl h
        · exact .inr ⟨h.1, by omega⟩
      · exact .inr ⟨this, by omega⟩
    · intro g hg e
      have := own_lt h1.stack g hg.symm
      simp only [clo, Value.func.injEq] at e
      simp at e
  go_enter Tryz.func87, Tryz.ntmps87
  go_wp2
  go_ret
  exact ⟨rfl, hpost⟩
theorem RepV.set {S : Nat → Prop} {tv sv pv v : Value} {t : Tag} (h : RepV S w v t) (h1 : LexAt base S w b L tv sv pv) (i : Nat) (u : Value) : RepV S (w.setCell ⟨b, i, none⟩ u) v t := h.far h1.blk i u
/-- The next state is stored. -/
theorem AtV.store {v : Value} {t : Tag} (h : AtV base S0 w0 w b L v t) : At base S0 w0 (w.setCell ⟨b, 5, none⟩ v) b (L.goes t) := by
  obtain ⟨S, tv, sv, pv, h1, h2, h3, h4, h5⟩ := h
  refine ⟨S, v, sv, pv, ?_, h2.setCell ?_ _, ?_⟩
  · exact {
      blk := by rw [blk_setCell h1.blk]; rfl
      chan := by rw [Below.heap_setCell _ _ _ _ h1.ne_chan]; exact h1.chan
      stack := ownsRow_setCell_other h1.stack (own_ne_blk h1.stack h1.blk (by decide)) _
      parts := ownsRow_setCell_other h1.parts (own_ne_blk h1.parts h1.blk (by decide)) _
      st := h4.set h1 5 _
      hb := h1.hb
      hch := h1.hch
      hsv := h1.hsv
      hpv := h1.hpv
      base := h1.base
      stv := fun g hg n hn => h5 g hg }
  · rcases h3 b h1.hb with h | h
    · exact .inl h
    · exact .inr h.1
  · intro k hk
    rcases h3 k hk with h | h
    · exact .inl h
    · exact .inr ⟨h.1, by simpa using h.2⟩
theorem AtV.at_ {v : Value} {t : Tag} (h : AtV base S0 w0 w b L v t) : At base S0 w0 w b L := by
  obtain ⟨S, tv, sv, pv, h1, h2, h3, _⟩ := h; exact ⟨S, tv, sv, pv, h1, h2, h3⟩
end
theorem nxt_same (L : LX) : L.nxt.stack = L.stack ∧ L.nxt.parts = L.parts ∧ L.nxt.q = L.q ∧ L.nxt.start = L.start ∧ L.nxt.inp = L.inp ∧ L.nxt.ilstart = L.ilstart ∧ L.nxt.ssf = L.ssf ∧ L.nxt.state = L.state := by
  unfold LX.nxt
  split
  · simp
  · split <;> simp
theorem pk_same (L : LX) : L.pk.stack = L.stack ∧ L.pk.parts = L.parts ∧ L.pk.q = L.q ∧ L.pk.start = L.start ∧ L.pk.inp = L.inp ∧ L.pk.ilstart = L.ilstart ∧ L.pk.ssf = L.ssf ∧ L.pk.state = L.state ∧ L.pk.pos = L.pos ∧ L.pk.line = L.line := by
  unfold LX.pk
  split
  · simp
  · split <;> simp
theorem nxt_stack (L : LX) : L.nxt.stack = L.stack := (nxt_same L).1
theorem pk_stack (L : LX) : L.pk.stack = L.stack := (pk_same L).1
theorem nxt_parts (L : LX) : L.nxt.parts = L.parts := (nxt_same L).2.1
theorem pk_parts (L : LX) : L.pk.parts = L.parts := (pk_same L).2.1
theorem nxt_q (L : LX) : L.nxt.q = L.q := (nxt_same L).2.2.1
theorem pk_q (L : LX) : L.pk.q = L.q := (pk_same L).2.2.1
theorem nxt_start (L : LX) : L.nxt.start = L.start := (nxt_same L).2.2.2.1
theorem pk_start (L : LX) : L.pk.start = L.start := (pk_same L).2.2.2.1
theorem pk_pos (L : LX) : L.pk.pos = L.pos := (pk_same L).2.2.2.2.2.2.2.2.1
theorem nxt_pos (L : LX) : L.nxt.pos = if L.inp.size ≤ L.pos then L.pos else L.pos + 1 := by
  unfold LX.nxt
  split
  · rfl
  · split <;> rfl
/-- Function f of the lexer's states: from L it comes to L', and the next state is t. -/
def Goes1 (f : Nat) (L L' : LX) (t : Tag) : Prop :=
  ∀ (base : Nat) (S0 : Nat → Prop) (w0 w : World) (b : Nat), At base S0 w0 w b L →
    Calls Tryz.prog f #[.pointer (some ⟨b, 0, none⟩)] w fun e w' => ∃ v, e = .returned v ∧ AtV base S0 w0 w' b L' v t
/-- What else is asked of a lexer that hands an item on. -/
structure LX.Rdy (L : LX) : Prop where
  parts : L.parts = []
  start : L.start ≤ L.pos
  q : L.q.length < 10
theorem LX.Ok.psh {L : LX} (ok : L.Ok) (n : Nat) : (L.psh n).Ok := ⟨ok.small, ok.pos, ok.start, ok.width, ok.lstart, ok.ilstart, ok.line, ok.asc⟩
theorem LX.Ok.goes {L : LX} (ok : L.Ok) (t : Tag) : (L.goes t).Ok := ⟨ok.small, ok.pos, ok.start, ok.width, ok.lstart, ok.ilstart, ok.line, ok.asc⟩
theorem LX.Ok.emit {L : LX} (ok : L.Ok) (t : Nat) (v : ByteArray) : (L.emit t v).Ok := ⟨ok.small, ok.pos, ok.pos, ok.width, ok.lstart, ok.lstart, ok.line, ok.asc⟩
end Go.Cf

/-
  The lexer runs: state after state, until an item lies in its channel.
-/
namespace Go.Cf
open Go.RowKit Go.Conc Go.Proofs
/-- Function f has a body of Go's. -/
def Enters (f : Nat) : Prop := ∀ (args : Array Value) (w : World), (callFunc f args).run Tryz.prog w = .ok (.enter f args) w
/-- One state's work. -/
inductive Lstep : LX → LX → Prop
  | plain {L L' : LX} {f : Nat} {t : Tag} (hs : L.state = some (false, f)) (he : Enters f) (h : Goes1 f L L' t) : Lstep L (L'.goes t)
  | skip {L : LX} {f : Nat} (hs : L.state = some (true, f)) : Lstep L (L.ign.goes (some (false, f)))
inductive Run : Nat → LX → LX → Prop
  | refl (L : LX) : Run 0 L L
  | step {n : Nat} {L L1 L' : LX} (hq : L.q = []) (h : Lstep L L1) (k : Run n L1 L') : Run (n + 1) L L'
theorem Run.trans {n m : Nat} {L L1 L' : LX} (h : Run n L L1) (k : Run m L1 L') : Run (n + m) L L' := by
  induction h with
  | refl => simpa using k
  | step hq h _ ih => rw [Nat.add_right_comm]; exact .step hq h (ih k)
section
variable {P : Program} {Q : Exit → Act → World → Prop} {a : Act} {w : World}
theorem list_rest {l : List Oper} {o : Oper} : wpOps P (o :: l).toArray Q (List.range' 1 l.length) = wpList P (o :: l).toArray Q l :=
  wpOps_eq_wpList l 1 (fun j => by simp [Nat.add_comm 1 j])
theorem range_head (n : Nat) : List.range (n + 1) = 0 :: List.range' 1 n := by rw [List.range_eq_range', List.range'_succ]
theorem wpN_select_default {id : Nat} {l : List Oper} {o : Oper} {c cap s r : Nat} {tm : Bool} {z : Value} (hg : o.guard = none)
    (hr : (execOp a.eval o).run P w = .ok (.comm #[rcase c z] false .select) w) (hc : w.heap[c]? = some (.chan cap #[] false s r tm))
    (h : wpList P (o :: l).toArray Q l (a.put o.dst (.tuple #[goInt (-1), .bool false, z])) w) : wpN P (.region id (o :: l).toArray false) Q a w := by
  refine Lst.region ?_
  rw [List.size_toArray, List.length_cons, range_head]
  refine Lst.select_default (o := o) rfl hg hr hc (Lst.plain ?_)
  rw [list_rest]; exact h
theorem wpN_select_got {id : Nat} {l : List Oper} {o : Oper} {c cap s r : Nat} {buf : Array Value} {tm cl : Bool} {z : Value} (hg : o.guard = none)
    (hr : (execOp a.eval o).run P w = .ok (.comm #[rcase c z] false .select) w) (hc : w.heap[c]? = some (.chan cap buf cl s r tm)) (hsome : 0 < buf.size)
    (h : wpList P (o :: l).toArray Q l (a.put o.dst (.tuple #[goInt 0, .bool true, buf.getD 0 undef])) (w.setChan c cap (buf.extract 1 buf.size) cl s (r + 1) tm)) : wpN P (.region id (o :: l).toArray false) Q a w := by
  refine Lst.region ?_
  rw [List.size_toArray, List.length_cons, range_head]
  refine Lst.select_got (o := o) rfl hg hr hc hsome (Lst.plain ?_)
  rw [list_rest]; exact h
end
section
variable {base : Nat} {S0 : Nat → Prop} {w0 w : World} {b : Nat} {L : LX}
theorem RepV.bound {S : Nat → Prop} {v : Value} {t : Tag} (h : RepV S w v t) : RepV (fun k => S k ∧ k < w.heap.size) w v t := by
  match t, h with
  | none, h => exact h
  | some (false, n), h => exact h
  | some (true, n), ⟨g, hv, hg, hs⟩ => exact ⟨g, hv, hg, hs, lt_of_block hg⟩
theorem At.rebase (h : At base S0 w0 w b L) : ∃ S : Nat → Prop, At base S w w b L ∧ (∀ k, S k → k < w.heap.size) ∧ (∀ k, S k → S0 k ∨ w0.heap.size ≤ k) ∧ ∀ w' L', At base S w w' b L' → At base S0 w0 w' b L' := by
  obtain ⟨S, tv, sv, pv, h1, h2, h3⟩ := h
  have hS : ∀ k, (S k ∧ k < w.heap.size) → S0 k ∨ w0.heap.size ≤ k := fun k hk => (h3 k hk.1).elim .inl fun h => .inr h.1
  refine ⟨fun k => S k ∧ k < w.heap.size, ⟨fun k => S k ∧ k < w.heap.size, tv, sv, pv, ?_, Fr.refl _ _, fun k hk => .inl hk⟩, fun k hk => hk.2, hS, ?_⟩
  · exact {
      blk := h1.blk
      chan := h1.chan
      stack := h1.stack
      parts := h1.parts
      st := h1.st.bound
      hb := ⟨h1.hb, lt_of_block h1.blk⟩
      hch := ⟨h1.hch, lt_of_block h1.chan⟩
      hsv := fun k hk => ⟨h1.hsv k hk, own_lt h1.stack k hk⟩
      hpv := fun k hk => ⟨h1.hpv k hk, own_lt h1.parts k hk⟩
      base := h1.base
      stv := h1.stv }
  · rintro w' L' ⟨S', tv', sv', pv', k1, k2, k3⟩
    refine ⟨S', tv', sv', pv', k1, h2.trans k2 hS, ?_⟩
    intro k hk
    rcases k3 k hk with h | h
    · rcases hS k h with h' | h'
      · exact .inl h'
      · exact .inr ⟨h', by have := k2.size; have := h.2; omega⟩
    · exact .inr ⟨by have := h2.size; omega, h.2⟩
theorem At.kept (h : At base S0 w0 w b L) {g : Nat} {o : Obj} (hg : w0.heap[g]? = some o) (hn : ¬ S0 g) : w.heap[g]? = some o := by
  obtain ⟨S, tv, sv, pv, h1, h2, h3⟩ := h
  exact h2.blk hg hn
theorem At.c5p (h : At base S0 w0 w b L) {f : Nat} (hs : L.state = some (false, f)) : w.cell? ⟨b, 5, none⟩ = some (fnV f) := by
  obtain ⟨S, tv, sv, pv, h1, h2, h3⟩ := h
  have := h1.st
  rw [hs] at this
  have h5 := h1.c5
  rw [show tv = fnV f from this] at h5
  exact h5
theorem At.c5s (h : At base S0 w0 w b L) {f : Nat} (hs : L.state = some (true, f)) : ∃ g, w.cell? ⟨b, 5, none⟩ = some (clo g) ∧ w.heap[g]? = some (.cells #[fnV f] 107 (0, 0)) := by
  obtain ⟨S, tv, sv, pv, h1, h2, h3⟩ := h
  have := h1.st
  rw [hs] at this
  obtain ⟨g, hv, hg, _⟩ := this
  have h5 := h1.c5
  rw [show tv = clo g from hv] at h5
  exact ⟨g, h5, hg⟩
end
def LX.took (L : LX) (q : List It) : LX := { L with q := q, cr := L.cr + 1 }
/-- A loop, round by round. -/
def wpL (P : Program) (c : Code) (Q : Exit → Act → World → Prop) (a : Act) (w : World) : Prop :=
  ∀ (b : Frame) (k : List Item) (cs : List Frame), b.kind = .normal → ∃ e a' w', Q e a' w' ∧ Arrives P (lone (b.at a (.code c :: .inLoop c :: k)) cs w) b k cs e a' w'
section
variable {P : Program} {Q : Exit → Act → World → Prop} {a : Act} {w : World}
theorem wpL.loop {c : Code} (h : wpL P c Q a w) : wpN P (.loop c) Q a w := by
  intro b k cs hb
  obtain ⟨e, a', w', hq, harr⟩ := h b k cs hb
  exact ⟨e, a', w', hq, .of_steps (.one step_loop) harr⟩
theorem wpL_round {c : Code} (h : wpN P c (Exit.then (wpL P c Q) Q) a w) : wpL P c Q a w := by
  intro b k cs hb
  obtain ⟨e, a₁, w₁, hq, harr⟩ := h b (.inLoop c :: k) cs hb
  cases e with
  | normal =>
    obtain ⟨e₂, a₂, w₂, hq₂, harr₂⟩ := hq b k cs hb
    exact ⟨e₂, a₂, w₂, hq₂, .of_steps (Steps.trans harr (.one step_inLoop)) harr₂⟩
  | exit id => exact ⟨_, a₁, w₁, hq, .pass (x := .inLoop c) rfl (fun _ _ => .inl (by simp)) harr⟩
  | goto l => exact ⟨_, a₁, w₁, hq, .pass (x := .inLoop c) rfl (fun _ _ => .inl (by simp)) harr⟩
  | ret => exact ⟨_, a₁, w₁, hq, .pass (x := .inLoop c) rfl (fun _ _ => .inl (by simp)) harr⟩
  | panic ch => exact ⟨_, a₁, w₁, hq, .pass (x := .inLoop c) rfl (fun _ _ => .inl (by simp)) harr⟩
  | outgrown => exact ⟨_, a₁, w₁, hq, .pass (x := .inLoop c) rfl (fun _ _ => .inl (by simp)) harr⟩
theorem wpN_seq_select_default {id : Nat} {l : List Oper} {o : Oper} {c cap s r : Nat} {tm : Bool} {z : Value} {y : Code} (a' : Act) (hg : o.guard = none)
    (hr : (execOp a.eval o).run P w = .ok (.comm #[rcase c z] false .select) w) (hc : w.heap[c]? = some (.chan cap #[] false s r tm)) (ha : a.put o.dst (.tuple #[goInt (-1), .bool false, z]) = a')
    (h : ∀ K : Act → World → Prop, (∀ a w, wpN P y Q a w → K a w) → wpList P (o :: l).toArray (Exit.then K Q) l a' w) : wpN P (.seq (.region id (o :: l).toArray false) y) Q a w :=
  wpN_seq (wpN_select_default hg hr hc (by rw [ha]; exact h _ fun _ _ h => h))
theorem wpN_seq_select_got {id : Nat} {l : List Oper} {o : Oper} {c cap s r : Nat} {buf : Array Value} {tm cl : Bool} {z : Value} {y : Code} (a' : Act) (w' : World) (hg : o.guard = none)
    (hr : (execOp a.eval o).run P w = .ok (.comm #[rcase c z] false .select) w) (hc : w.heap[c]? = some (.chan cap buf cl s r tm)) (hsome : 0 < buf.size) (ha : a.put o.dst (.tuple #[goInt 0, .bool true, buf.getD 0 undef]) = a') (hw : w.setChan c cap (buf.extract 1 buf.size) cl s (r + 1) tm = w')
    (h : ∀ K : Act → World → Prop, (∀ a w, wpN P y Q a w → K a w) → wpList P (o :: l).toArray (Exit.then K Q) l a' w') : wpN P (.seq (.region id (o :: l).toArray false) y) Q a w :=
  wpN_seq (wpN_select_got hg hr hc hsome (by rw [ha, hw]; exact h _ fun _ _ h => h))
theorem wpN_mono {c : Code} {Q' : Exit → Act → World → Prop} (h : wpN P c Q a w) (hQ : ∀ e a w, Q e a w → Q' e a w) : wpN P c Q' a w :=
  fun b k cs hb => let ⟨e, a', w', q, r⟩ := h b k cs hb; ⟨e, a', w', hQ _ _ _ q, r⟩
theorem wpL_ind {c : Code} {I : LX → Act → World → Prop} {n : Nat} {L L' : LX} (R : Run n L L') (hI : I L a w) (hend : ∀ a w, I L' a w → wpN P c (Exit.then (fun _ _ => False) Q) a w)
    (hstep : ∀ L L1, L.q = [] → Lstep L L1 → ∀ a w, I L a w → wpN P c (Exit.then (I L1) Q) a w) : wpL P c Q a w := by
  induction R generalizing a w with
  | refl L => exact wpL_round (wpN_mono (hend _ _ hI) (fun e a w q => by cases e <;> first | exact q | exact q.elim))
  | step hq hs k ih => exact wpL_round (wpN_mono (hstep _ _ hq hs _ _ hI) (fun e a w q => by cases e <;> first | exact q | exact ih q hend))
end
section
variable {base : Nat} {S0 : Nat → Prop} {w0 w : World} {b : Nat} {L L' : LX}
def Zero98 : Obj := .cells #[i64 0, .string { data := #[] }, i64 0, i64 0] 98
theorem LexAt.agree {T : Nat → Prop} {tv sv pv : Value} {w1 : World} (h : LexAt base T w b L tv sv pv) (hw : ∀ k, T k → w1.heap[k]? = w.heap[k]?) : LexAt base T w1 b L tv sv pv where
  blk := (hw b h.hb).trans h.blk
  chan := (hw L.ch h.hch).trans h.chan
  stack := by
    obtain ⟨hx, h0 | ⟨g, cap, cur, hv, hbg, hblk, hrest⟩⟩ := h.stack
    · exact ⟨hx, .inl h0⟩
    · exact ⟨hx, .inr ⟨g, cap, cur, hv, hbg, (hw g (h.hsv g (by rw [hv]; rfl))).trans hblk, hrest⟩⟩
  parts := by
    obtain ⟨hx, h0 | ⟨g, cap, cur, hv, hbg, hblk, hrest⟩⟩ := h.parts
    · exact ⟨hx, .inl h0⟩
    · exact ⟨hx, .inr ⟨g, cap, cur, hv, hbg, (hw g (h.hpv g (by rw [hv]; rfl))).trans hblk, hrest⟩⟩
  st := by
    match ht : L.state, h.st with
    | none, h => exact h
    | some (false, n), h => exact h
    | some (true, n), ⟨g, hv, hg, hs⟩ => exact ⟨g, hv, (hw g hs).trans hg, hs⟩
  hb := h.hb
  hch := h.hch
  hsv := h.hsv
  hpv := h.hpv
  base := h.base
  stv := h.stv
theorem At.laid (h : At base S0 w0 w b L) (o : Obj) : ∃ S : Nat → Prop, At base S (w.alloc o) (w.alloc o) b L ∧ ¬ S w.heap.size ∧ ∀ w' w'' L', At base S (w.alloc o) w' b L' → Fr (fun k => k = w.heap.size) w' w'' → At base S0 w0 w'' b L' := by
  obtain ⟨S, tv, sv, pv, h1, h2, h3⟩ := h
  obtain ⟨S', hA, hlt, hS, hback⟩ := At.rebase ⟨S, tv, sv, pv, h1, h2, h3⟩
  obtain ⟨T, tv, sv, pv, k1, k2, k3⟩ := hA
  have hbl : Below w.heap.size w (w.alloc o) := (Below.refl _ _).alloc (Nat.le_refl _) _
  have hT : ∀ k, T k → S' k := fun k hk => (k3 k hk).elim id fun h => by have := h.1; have := h.2; omega
  refine ⟨S', ⟨T, tv, sv, pv, k1.below hbl, Fr.refl _ _, fun k hk => .inl (hT k hk)⟩, fun h => by have := hlt _ h; omega, ?_⟩
  rintro w' w'' L' ⟨U, tv', sv', pv', m1, m2, m3⟩ hfr
  refine hback w'' L' ⟨fun k => U k ∧ k < w'.heap.size, tv', sv', pv', ?_, ?_, ?_⟩
  · refine LexAt.agree (w := w') ?_ ?_
    · exact {
        blk := m1.blk
        chan := m1.chan
        stack := m1.stack
        parts := m1.parts
        st := m1.st.bound
        hb := ⟨m1.hb, lt_of_block m1.blk⟩
        hch := ⟨m1.hch, lt_of_block m1.chan⟩
        hsv := fun k hk => ⟨m1.hsv k hk, own_lt m1.stack k hk⟩
        hpv := fun k hk => ⟨m1.hpv k hk, own_lt m1.parts k hk⟩
        base := m1.base
        stv := m1.stv }
    · rintro k ⟨hk, hk2⟩
      refine hfr.block k hk2 ?_
      rintro rfl
      rcases m3 _ hk with h | h
      · have := hlt _ h; omega
      · have := h.1; rw [World.size_alloc] at this; omega
  · refine ((Fr.below hbl S').trans m2 (fun _ h => .inl h)).trans hfr ?_
    rintro k rfl
    exact .inr (Nat.le_refl _)
  · rintro k ⟨hk, hk2⟩
    rcases m3 k hk with h | h
    · exact .inl h
    · exact .inr ⟨by have := h.1; rw [World.size_alloc] at this; omega, by have := hfr.size; omega⟩
/-- nextItem's loop: between two rounds. -/
def NI (base : Nat) (S : Nat → Prop) (W : World) (b r : Nat) (L : LX) (a : Act) (w : World) : Prop :=
  (∃ t1 t3 t4 t5 t6 t7 t8 t9 t10 t11 t12 t13 t14 t15 t16 t17 t18 t19 t20 t21 : Value, a = { tmps := #[.pointer (some ⟨b, 0, none⟩), t1, .pointer (some ⟨r, 0, none⟩), t3, t4, t5, t6, t7, t8, t9, t10, t11, t12, t13, t14, t15, t16, t17, t18, t19, t20, t21], defers := [] }) ∧ At base S W w b L
theorem At.c5x (h : At base S0 w0 w b L) : ∃ u, w.cell? ⟨b, 5, none⟩ = some u := by obtain ⟨S, tv, sv, pv, h1, _⟩ := h; exact ⟨_, h1.c5⟩
theorem AtV.form {v : Value} {t : Tag} (h : AtV base S0 w0 w b L v t) : v = .nilFunc ∨ (∃ n, v = fnV n) ∨ ∃ g, v = clo g := by
  obtain ⟨S, tv, sv, pv, h1, h2, h3, h4, _⟩ := h
  match t, h4 with
  | none, h => exact .inl h
  | some (false, n), h => exact .inr (.inl ⟨n, h⟩)
  | some (true, n), ⟨g, hv, _⟩ => exact .inr (.inr ⟨g, hv⟩)
theorem results_cell {P : Program} {fn : Func} {t : Tmp} {ty e : TypeId} {tmps : Array Value} {W : World} {g : Nat} {cs : Array Value} {fr : Nat × Nat} {d : TypeDesc} (h : fn.results = #[.cell t ty]) (hp : tmps.getD t undef = .pointer (some ⟨g, 0, none⟩)) (hg : W.heap[g]? = some (.cells cs e fr))
    (hu : P.underlying ty = some d) (hd : (match d with | .struct _ | .array _ _ => true | _ => false) = true) (hi : (P.info? ty).map (·.size) = some cs.size) : (results fn tmps).run P W = .ok (.agg cs) W := by
  have := run_loadVar_row W g e ty cs fr d hg hu hd hi
  rw [Array.getD_eq_getD_getElem?] at hp
  simp [results, h, hp, asAddr, this]
theorem run_store_fn {P : Program} {W : World} {A : Addr} {f : Fn} {xs ys : Array Value} {m : Mode} : (store A (.func f xs ys) m).run P W = stored P W A (.func f xs ys) m := run_store P W A _ m rfl
theorem run_store_nofn {P : Program} {W : World} {A : Addr} {m : Mode} : (store A .nilFunc m).run P W = stored P W A .nilFunc m := run_store P W A _ m rfl
attribute [local go_sem] run_store_fn run_store_nofn
theorem info98 : (Tryz.prog.info? 98).map (·.size) = some 4 := by kernel_rfl
set_option maxRecDepth 100000 in
set_option maxHeartbeats 1000000 in
theorem nextItem_c {n : Nat} {x : It} {q : List It} (R : Run n L L') (hx : L'.q = x :: q) (h : At base S0 w0 w b L) :
    Calls Tryz.prog 61 #[.pointer (some ⟨b, 0, none⟩)] w fun e w' => e = .returned x.v ∧ At base S0 w0 w' b (L'.took q) := by
  obtain ⟨S, hA, hnS, hback⟩ := h.laid Zero98
  have hr0 : (w.alloc Zero98).heap[w.heap.size]? = some Zero98 := heap_alloc_new w _
  refine calls_of_wpN Tryz.func61 rfl ?_
  simp only [Tryz.ntmps61, List.size_toArray, List.length_cons, List.length_nil, Nat.reduceAdd, Nat.reduceSub, Array.replicate_succ, Array.replicate_zero, List.push_toArray, List.append_toArray, List.nil_append, List.cons_append]
  refine wpN_seq_k (fun K hK => ?_)
  go_wp2
  refine wpN_block (wpL.loop ?_)
  refine wpL_ind (I := NI base S (w.alloc Zero98) b w.heap.size) R ⟨⟨_, _, _, _, _, _, _, _, _, _, _, _, _, _, _, _, _, _, _, _, rfl⟩, hA⟩ ?_ ?_
  · rintro a w1 ⟨⟨t1, t3, t4, t5, t6, t7, t8, t9, t10, t11, t12, t13, t14, t15, t16, t17, t18, t19, t20, t21, rfl⟩, hA⟩
    have c6 := hA.c6
    have c11 := hA.kept hr0 hnS
    have hch := hA.heapCh
    rw [hx] at hch
    have hB := hA.chan q L'.cs (L'.cr + 1)
    refine wpN_block (wpN_seq_k fun K hK => ?_)
    go_wp2
    obtain ⟨xt, xv, xl, xp⟩ := x
    obtain ⟨W2, hW2⟩ : ∃ W2, W2 = w1.setChan L'.ch 10 (q.map It.v).toArray false L'.cs (L'.cr + 1) false := ⟨_, rfl⟩
    refine wpN_seq_select_got (c := L'.ch) (cap := 10) (buf := ((It.mk xt xv xl xp :: q).map It.v).toArray) (s := L'.cs) (r := L'.cr) (tm := false) (cl := false) (z := .agg #[i64 0, .string { data := #[] }, i64 0, i64 0]) { tmps := #[.pointer (some ⟨b, 0, none⟩), t1, .pointer (some ⟨w.heap.size, 0, none⟩), t3, .pointer (some ⟨b, 0, none⟩), .pointer (some ⟨b, 0, none⟩), .pointer (some ⟨b, 6, none⟩), .chan (some L'.ch), .tuple #[.int .i64 0, .bool true, .agg #[i64 xt, .string xv, i64 xl, i64 xp]], t9, t10, t11, t12, t13, t14, t15, t16, t17, t18, t19, t20, t21], defers := [] } W2 rfl (by kernel_rfl) hch (by simp) rfl (by rw [show ((It.mk xt xv xl xp :: q).map It.v).toArray.extract 1 ((It.mk xt xv xl xp :: q).map It.v).toArray.size = (q.map It.v).toArray from (by simp only [List.map_cons, List.size_toArray, List.length_cons]; simp [List.take_of_length_le]), hW2]) (fun K hK => ?_)
    rw [← hW2] at hB
    have c11 := hB.kept hr0 hnS
    have hr2 := lt_of_block c11
    have hp : Fr (fun k => k = w.heap.size) W2 (W2.alloc (Obj.cells #[Value.int IntKind.i64 xt, Value.string xv, Value.int IntKind.i64 xl, Value.int IntKind.i64 xp] 98)) := (Fr.refl _ _).alloc _
    have c12 : (W2.alloc (Obj.cells #[Value.int IntKind.i64 xt, Value.string xv, Value.int IntKind.i64 xl, Value.int IntKind.i64 xp] 98)).heap[w.heap.size]? = some (.cells #[i64 0, .string { data := #[] }, i64 0, i64 0] 98 (0, 0)) := (((Below.refl _ W2).alloc (Nat.le_refl _) _).block _ hr2).trans c11
    have d0 : W2.cell? ⟨w.heap.size, 0, none⟩ = some (.int .i64 0) := blk_cell c11 0
    have d1 : W2.cell? ⟨w.heap.size, 1, none⟩ = some (.string { data := #[] }) := blk_cell c11 1
    have d2 : W2.cell? ⟨w.heap.size, 2, none⟩ = some (.int .i64 0) := blk_cell c11 2
    have d3 : W2.cell? ⟨w.heap.size, 3, none⟩ = some (.int .i64 0) := blk_cell c11 3
    have e0 : W2.frozen? ⟨w.heap.size, 0, none⟩ = false := blk_free c11 0
    have e1 : W2.frozen? ⟨w.heap.size, 1, none⟩ = false := blk_free c11 1
    have e2 : W2.frozen? ⟨w.heap.size, 2, none⟩ = false := blk_free c11 2
    have e3 : W2.frozen? ⟨w.heap.size, 3, none⟩ = false := blk_free c11 3
    have hne : w.heap.size ≠ W2.heap.size := by omega
    have HC := Lib.hid c11
    clear c6 c11 c12 hch hr0 hA hW2 hx
    go_wp2
    refine wpN_block (wpN_of_wp ?_)
    go_wp2
    have c13 := (((Below.refl _ _).alloc (Nat.le_refl _) (Obj.cells #[Value.int IntKind.i64 xt, Value.string xv, Value.int IntKind.i64 xl, Value.int IntKind.i64 xp] 98)).block _ (by simpa using hr2)).trans (blk_setCell (blk_setCell (blk_setCell (blk_setCell HC.out 0 (.int .i64 xt)) 1 (.string xv)) 2 (.int .i64 xl)) 3 (.int .i64 xp))
    refine bodyPost_ret (results_cell rfl rfl c13 Tryz.underlying98 rfl info98) rfl ?_
    refine ⟨rfl, hback W2 _ (L'.took q) hB ?_⟩
    exact (((((Fr.refl (fun k => k = w.heap.size) W2).setCell (.inl rfl) _).setCell (.inl rfl) _).setCell (.inl rfl) _).setCell (.inl rfl) _).alloc _
  · rintro L L1 hq hs a w1 ⟨⟨t1, t3, t4, t5, t6, t7, t8, t9, t10, t11, t12, t13, t14, t15, t16, t17, t18, t19, t20, t21, rfl⟩, hA⟩
    have c6 := hA.c6
    have hch := hA.heapCh
    rw [hq] at hch
    refine wpN_block (wpN_seq_k fun K hK => ?_)
    go_wp2
    refine wpN_seq_select_default (c := L.ch) (cap := 10) (s := L.cs) (r := L.cr) (tm := false) (z := .agg #[i64 0, .string { data := #[] }, i64 0, i64 0]) { tmps := #[.pointer (some ⟨b, 0, none⟩), t1, .pointer (some ⟨w.heap.size, 0, none⟩), t3, .pointer (some ⟨b, 0, none⟩), .pointer (some ⟨b, 0, none⟩), .pointer (some ⟨b, 6, none⟩), .chan (some L.ch), .tuple #[.int .i64 (-1), .bool false, .agg #[i64 0, .string { data := #[] }, i64 0, i64 0]], t9, t10, t11, t12, t13, t14, t15, t16, t17, t18, t19, t20, t21], defers := [] } rfl (by kernel_rfl) hch rfl (fun K hK => ?_)
    go_wp2
    refine wpN_block (wpN_of_wp ?_)
    cases hs with
    | plain hst he hg =>
      have c5 := hA.c5p hst
      have HR := Lib.hid hst
      have HX := Lib.hid hx
      have HQ := Lib.hid hq
      clear hst hx hq
      go_wp2_with fail
      rw [he, Oper.upon_enter]
      refine (hg _ _ _ _ _ hA).mono ?_
      rintro e w2 ⟨v, rfl, hv⟩
      have f5 := hv.at_.free 5
      obtain ⟨u, c5⟩ := hv.at_.c5x
      have hs := hv.store
      rcases hv.form with rfl | ⟨m, rfl⟩ | ⟨m, rfl⟩ <;>
      · clear hv he hg
        simp only [fnV] at hs ⊢
        go_wp2
        exact ⟨⟨_, _, _, _, _, _, _, _, _, _, _, _, _, _, _, _, _, _, _, _, rfl⟩, hs⟩
    | @skip f hst =>
      obtain ⟨g, c5, hg⟩ := hA.c5s hst
      have HR := Lib.hid hst
      have HX := Lib.hid hx
      have HQ := Lib.hid hq
      clear hst hx hq
      go_wp2_with fail
      refine (skip1_c hA _ _ hg).mono ?_
      rintro e w2 ⟨rfl, hv⟩
      have f5 := hv.free 5
      obtain ⟨u, c5⟩ := hv.c5x
      have hs := (hv.plain f).store
      clear hv
      simp only [fnV] at hs ⊢
      go_wp2
      exact ⟨⟨_, _, _, _, _, _, _, _, _, _, _, _, _, _, _, _, _, _, _, _, rfl⟩, hs⟩
end
end Go.Cf

/-
  Blocks with labels: whose they are. What a call keeps; rows, maps, the lexer, values of a configuration in memory.
-/
namespace Go.Cf
open Go.RowKit Go.Conc Go.Proofs
abbrev Lab := Nat → Nat
/-- Blocks from n on bear ℓ. -/
def Lab.ext (lab : Lab) (n ℓ : Nat) : Lab := fun k => if k < n then lab k else ℓ
/-- w' is as w was, but for blocks whose labels are of M, and new ones; the old blocks' labels stay. -/
structure Mv (M : Nat → Prop) (w : World) (lab : Lab) (w' : World) (lab' : Lab) : Prop where
  os : w'.os = w.os
  tape : w'.tape = w.tape
  output : w'.output = w.output
  size : w.heap.size ≤ w'.heap.size
  block : ∀ k, k < w.heap.size → ¬ M (lab k) → w'.heap[k]? = w.heap[k]?
  lab : ∀ k, k < w.heap.size → ¬ M (lab k) → lab' k = lab k
section
variable {M M' : Nat → Prop} {w w1 w2 : World} {lab lab1 lab2 : Lab}
theorem Mv.refl (M : Nat → Prop) (w : World) (lab : Lab) : Mv M w lab w lab := ⟨rfl, rfl, rfl, Nat.le_refl _, fun _ _ _ => rfl, fun _ _ _ => rfl⟩
theorem Mv.trans (h : Mv M w lab w1 lab1) (k : Mv M' w1 lab1 w2 lab2) (hM : ∀ x, M' x → M x) : Mv M w lab w2 lab2 :=
  ⟨k.os.trans h.os, k.tape.trans h.tape, k.output.trans h.output, Nat.le_trans h.size k.size,
    fun x hx hn => (k.block x (Nat.lt_of_lt_of_le hx h.size) (fun hm => hn (by rw [← h.lab x hx hn]; exact hM _ hm))).trans (h.block x hx hn),
    fun x hx hn => (k.lab x (Nat.lt_of_lt_of_le hx h.size) (fun hm => hn (by rw [← h.lab x hx hn]; exact hM _ hm))).trans (h.lab x hx hn)⟩
theorem Mv.mono (h : Mv M w lab w1 lab1) (hM : ∀ x, M x → M' x) : Mv M' w lab w1 lab1 := ⟨h.os, h.tape, h.output, h.size, fun x hx hn => h.block x hx fun hm => hn (hM _ hm), fun x hx hn => h.lab x hx fun hm => hn (hM _ hm)⟩
theorem Lab.ext_lt {lab : Lab} {n ℓ k : Nat} (h : k < n) : lab.ext n ℓ k = lab k := if_pos h
theorem Lab.ext_ge {lab : Lab} {n ℓ k : Nat} (h : n ≤ k) : lab.ext n ℓ k = ℓ := if_neg (by omega)
/-- A block is laid. -/
theorem Mv.alloc (w : World) (lab : Lab) (o : Obj) (ℓ : Nat) : Mv M w lab (w.alloc o) (lab.ext w.heap.size ℓ) :=
  ⟨rfl, rfl, rfl, by rw [World.size_alloc]; omega, fun k hk _ => ((Below.refl _ w).alloc (Nat.le_refl _) o).block k hk, fun _ hk _ => Lab.ext_lt hk⟩
theorem Mv.drewN (h : Mv M w lab w1 lab1) (n : Nat) : Mv M w lab (w1.drewN n) lab1 := ⟨h.os, h.tape, h.output, h.size, h.block, h.lab⟩
theorem Mv.setCell (w : World) (lab : Lab) (a : Addr) (u : Value) (hM : M (lab a.block)) : Mv M w lab (w.setCell a u) lab :=
  ⟨rfl, rfl, rfl, by simp [World.setCell], fun k hk hn => Below.heap_setCell w a u k (fun e => hn (by rw [e]; exact hM)), fun _ _ _ => rfl⟩
/-- What append leaves. -/
theorem Mv.grown {row : Option Nat} (hg : w.grownBy w1 row) (lab : Lab) (ℓ : Nat) (hM : ∀ k, row = some k → M (lab k)) : Mv M w lab w1 (lab.ext w.heap.size ℓ) :=
  ⟨hg.os, hg.tape, hg.output, hg.size, fun k hk hn => hg.block k hk (fun e => hn (hM k e.symm)), fun _ hk _ => Lab.ext_lt hk⟩
theorem Mv.below (h : Below w.heap.size w w1) (lab : Lab) (ℓ : Nat) : Mv M w lab w1 (lab.ext w.heap.size ℓ) :=
  ⟨h.os, h.tape, h.output, h.size, fun k hk _ => h.block k hk, fun _ hk _ => Lab.ext_lt hk⟩
theorem Mv.toBelow (h : Mv M w lab w1 lab1) {B : Nat} (hB : B ≤ w.heap.size) (hb : ∀ k, k < B → ¬ M (lab k)) : Below B w w1 :=
  ⟨h.os, h.tape, h.output, h.size, fun k hk => h.block k (by omega) (hb k hk)⟩
end
/-- A block of cells. -/
def Cl (ℓ : Nat) (lab : Lab) (w : World) (g : Nat) (cs : Array Value) (t : TypeId) : Prop := w.heap[g]? = some (.cells cs t (0, 0)) ∧ lab g = ℓ
/-- A slice that is owned. -/
def Rw (B ℓ : Nat) (lab : Lab) (w : World) (e size : Nat) (v : Value) (n : Nat) (xs : List Value) : Prop := w.ownsRow B e size v n xs ∧ ∀ k, v.ownBlock = some k → lab k = ℓ
abbrev anyR (v : Value) : Option (DataW Value × List MemPlace) := some (.held v, [])
/-- A configuration's values. -/
inductive JV where
  | int (n : Int)
  | num (f : Nat)
  | tr (b : Bool)
  | txt (s : ByteArray)
  | arr (l : List JV)
  | map (ks : List ByteArray) (l : List JV)
abbrev Ent := ByteArray × JV × Value
def entD (t : List Ent) : DataW Value := .map (t.map fun x => (.string x.1.data.toList, .held x.2.2))
/-- A map. -/
def Mp (ℓ : Nat) (lab : Lab) (w : World) (b : Nat) (t : List Ent) : Prop := w.ownsMap Tryz.prog 9 anyR b t.length (entD t) ∧ lab b = ℓ
section
variable {B ℓ : Nat} {M : Nat → Prop} {w w1 : World} {lab lab1 : Lab}
theorem Cl.mv {g : Nat} {cs : Array Value} {t : TypeId} (h : Cl ℓ lab w g cs t) (m : Mv M w lab w1 lab1) (hM : ¬ M ℓ) : Cl ℓ lab1 w1 g cs t :=
  ⟨(m.block g (lt_of_block h.1) (by rw [h.2]; exact hM)).trans h.1, (m.lab g (lt_of_block h.1) (by rw [h.2]; exact hM)).trans h.2⟩
theorem Rw.mv {e size n : Nat} {v : Value} {xs : List Value} (h : Rw B ℓ lab w e size v n xs) (m : Mv M w lab w1 lab1) (hM : ¬ M ℓ) : Rw B ℓ lab1 w1 e size v n xs := by
  obtain ⟨⟨hx, h0 | ⟨g, cap, cur, hv, hbg, hblk, hrest⟩⟩, hl⟩ := h
  · exact ⟨⟨hx, .inl h0⟩, fun k hk => by rw [h0.1] at hk; cases hk⟩
  · have hg := hl g (by rw [hv]; rfl)
    refine ⟨⟨hx, .inr ⟨g, cap, cur, hv, hbg, (m.block g (lt_of_block hblk) (by rw [hg]; exact hM)).trans hblk, hrest⟩⟩, fun k hk => ?_⟩
    rw [hv] at hk
    simp only [Value.ownBlock, Option.some.injEq] at hk
    subst hk
    exact (m.lab g (lt_of_block hblk) (by rw [hg]; exact hM)).trans hg
theorem Mp.mv {b : Nat} {t : List Ent} (h : Mp ℓ lab w b t) (m : Mv M w lab w1 lab1) (hM : ¬ M ℓ) : Mp ℓ lab1 w1 b t := by
  obtain ⟨⟨es, clock, hb, F, hs, hD⟩, hl⟩ := h
  exact ⟨⟨es, clock, (m.block b (lt_of_block hb) (by rw [hl]; exact hM)).trans hb, F, hs, hD⟩, (m.lab b (lt_of_block hb) (by rw [hl]; exact hM)).trans hl⟩
mutual
/-- v is the value j; its blocks bear 6. -/
def isJ (B : Nat) (lab : Lab) (w : World) : JV → Value → Prop
  | .int n, v => v = .iface 2 (.int .i64 n)
  | .num f, v => v = .iface 22 (.float .f64 f)
  | .tr b, v => v = .iface 4 (.bool b)
  | .txt s, v => v = .iface 9 (.string s)
  | .arr l, v => ∃ s xs, v = .iface 75 s ∧ Rw B 6 lab w 20 1 s l.length xs ∧ isJs B lab w l xs
  | .map ks l, v => ∃ b t, v = .iface 61 (.map (some b)) ∧ Mp 6 lab w b t ∧ t.map (·.1) = ks ∧ t.map (·.2.1) = l ∧ isJs B lab w l (t.map (·.2.2))
def isJs (B : Nat) (lab : Lab) (w : World) : List JV → List Value → Prop
  | [], [] => True
  | j :: js, x :: xs => isJ B lab w j x ∧ isJs B lab w js xs
  | _, _ => False
end
mutual
theorem isJ.mv (m : Mv M w lab w1 lab1) (hM : ¬ M 6) : ∀ (j : JV) (v : Value), isJ B lab w j v → isJ B lab1 w1 j v
  | .int n, v, h => h
  | .num n, v, h => h
  | .tr n, v, h => h
  | .txt n, v, h => h
  | .arr l, v, h => by
    simp only [isJ] at h ⊢
    obtain ⟨s, xs, hv, hr, hj⟩ := h
    exact ⟨s, xs, hv, hr.mv m hM, isJs.mv m hM l xs hj⟩
  | .map ks l, v, h => by
    simp only [isJ] at h ⊢
    obtain ⟨b, t, hv, hr, h1, h2, hj⟩ := h
    exact ⟨b, t, hv, hr.mv m hM, h1, h2, isJs.mv m hM l _ hj⟩
theorem isJs.mv (m : Mv M w lab w1 lab1) (hM : ¬ M 6) : ∀ (l : List JV) (xs : List Value), isJs B lab w l xs → isJs B lab1 w1 l xs
  | [], [], h => h
  | j :: js, x :: xs, h => by
    simp only [isJs] at h ⊢
    exact ⟨isJ.mv m hM j x h.1, isJs.mv m hM js xs h.2⟩
  | [], _ :: _, h => by simp [isJs] at h
  | _ :: _, [], h => by simp [isJs] at h
end
/-- The lexer, its blocks of label 1. -/
def Lx (B : Nat) (lab : Lab) (w : World) (b : Nat) (L : LX) : Prop := ∃ tv sv pv, LexAt B (fun k => lab k = 1 ∧ k < w.heap.size) w b L tv sv pv
variable {b : Nat} {L L' : LX}
theorem RepV.wide {S S' : Nat → Prop} {v : Value} {t : Tag} (h : RepV S w v t) (hS : ∀ k, S k → S' k) : RepV S' w v t := by
  match t, h with
  | none, h => exact h
  | some (false, n), h => exact h
  | some (true, n), ⟨g, hv, hg, hs⟩ => exact ⟨g, hv, hg, hS _ hs⟩
theorem Lx.mv (h : Lx B lab w b L) (m : Mv M w lab w1 lab1) (hM : ¬ M 1) : Lx B lab1 w1 b L := by
  obtain ⟨tv, sv, pv, h⟩ := h
  refine ⟨tv, sv, pv, LexAt.wide (h.agree (fun k hk => m.block k hk.2 (by rw [hk.1]; exact hM))) ?_⟩
  intro k hk
  exact ⟨(m.lab k hk.2 (by rw [hk.1]; exact hM)).trans hk.1, by have := m.size; omega⟩
theorem Lx.at (h : Lx B lab w b L) : At B (fun k => lab k = 1 ∧ k < w.heap.size) w w b L := by
  obtain ⟨tv, sv, pv, h⟩ := h
  exact ⟨_, tv, sv, pv, h, Fr.refl _ _, fun k hk => .inl hk⟩
theorem Lx.back (h : At B (fun k => lab k = 1 ∧ k < w.heap.size) w w1 b L) : Lx B (lab.ext w.heap.size 1) w1 b L ∧ Mv (· = 1) w lab w1 (lab.ext w.heap.size 1) := by
  obtain ⟨S, tv, sv, pv, h1, h2, h3⟩ := h
  refine ⟨⟨tv, sv, pv, ?_⟩, ⟨h2.os, h2.tape, h2.output, h2.size, fun k hk hn => h2.block k hk (fun e => hn e.1), fun _ hk _ => Lab.ext_lt hk⟩⟩
  have hS : ∀ k, (S k ∧ k < w1.heap.size) → (lab.ext w.heap.size 1 k = 1 ∧ k < w1.heap.size) := by
    rintro k ⟨hk, hlt⟩
    refine ⟨?_, hlt⟩
    rcases h3 k hk with h | h
    · rw [Lab.ext_lt h.2]; exact h.1
    · exact Lab.ext_ge h.1
  refine LexAt.wide (S := fun k => S k ∧ k < w1.heap.size) ?_ hS
  exact {
    blk := h1.blk
    chan := h1.chan
    stack := h1.stack
    parts := h1.parts
    st := h1.st.bound
    hb := ⟨h1.hb, lt_of_block h1.blk⟩
    hch := ⟨h1.hch, lt_of_block h1.chan⟩
    hsv := fun k hk => ⟨h1.hsv k hk, own_lt h1.stack k hk⟩
    hpv := fun k hk => ⟨h1.hpv k hk, own_lt h1.parts k hk⟩
    base := h1.base
    stv := h1.stv }
end
end Go.Cf

/-
  A region that draws its order and makes values, one a slot: what each value is good for, whatever the order.
-/
namespace Go.Cf
section
variable {P : Program} {Q : Exit → Act → World → Prop}
/-- What stands before an operation: the slots of those that came up hold what they should; slots of 'keep' are as at the start. -/
structure BldAt (C : Nat → Value → Lab → World → Prop) (dst : Nat → Nat) (keep : List (Nat × Value)) (n : Nat) (w0 : World) (lab0 : Lab) (len : Nat) (L : Array Bool) (a : Act) (lab : Lab) (w : World) : Prop where
  defers : a.defers = []
  size : a.tmps.size = n
  keep : ∀ p ∈ keep, a.tmps.getD p.1 undef = p.2
  mv : Mv (fun _ => False) w0 lab0 w lab
  got : ∀ k, k < len → L.getD k false = true → C k (a.tmps.getD (dst k) undef) lab w
/-- What an operation does. -/
def Does (P : Program) (o : Oper) (a : Act) (lab : Lab) (w : World) (R : Value → Lab → World → Prop) : Prop :=
  (∃ v w' lab', (execOp a.eval o).run P w = .ok (.value v) w' ∧ Mv (fun _ => False) w lab w' lab' ∧ R v lab' w') ∨
  (∃ f args, (execOp a.eval o).run P w = .ok (.enter f args) w ∧ Calls P f args w fun e w' => ∃ v lab', e = .returned v ∧ Mv (fun _ => False) w lab w' lab' ∧ R v lab' w')
theorem put_getD {a : Act} {d k : Nat} {v : Value} (hd : d < a.tmps.size) : (a.put (some d) v).tmps.getD k undef = if k = d then v else a.tmps.getD k undef := by
  simp only [Act.put, Array.getD_eq_getD_getElem?]
  by_cases h : k = d
  · subst h; simp [hd]
  · rw [Array.getElem?_setIfInBounds_ne (fun e => h e.symm), if_neg h]
theorem wp_region_bld {id : Nat} {l : List Oper} {a : Act} {w : World} (C : Nat → Value → Lab → World → Prop) (dst : Nat → Nat) (keep : List (Nat × Value)) (lab : Lab) (hm : P.follows .mixedOrders = true)
    (hdep : (List.range l.length).all (fun i => ((l[i]?).map fun o => o.after.all fun e => !Region.binds .any e || decide (e.on < i)).getD true) = true)
    (hdst : ∀ i o, l[i]? = some o → o.dst = some (dst i) ∧ o.guard = none ∧ dst i < a.tmps.size ∧ (∀ p ∈ keep, p.1 ≠ dst i) ∧ ∀ k, k < l.length → dst k = dst i → k = i)
    (hd0 : a.defers = []) (hkeep : ∀ p ∈ keep, a.tmps.getD p.1 undef = p.2)
    (hC : ∀ k v lab w lab' w', C k v lab w → Mv (fun _ => False) w lab w' lab' → C k v lab' w')
    (hstep : ∀ L a' lab' w' i o, l[i]? = some o → (∀ e ∈ o.after, Region.binds .any e = true → L.getD e.on false = true) → BldAt C dst keep a.tmps.size w lab l.length L a' lab' w' → Does P o a' lab' w' (C i))
    (hend : ∀ a' lab' w', (∀ k, k < l.length → C k (a'.tmps.getD (dst k) undef) lab' w') → a'.defers = [] → Mv (fun _ => False) w lab w' lab' → Q .normal a' w') : (Code.region id l.toArray true).wp P Q a w := by
  refine wp_region_inv (fun L a' w' => ∃ lab', BldAt C dst keep a.tmps.size w lab l.length L a' lab' w') hm hdep ?_ ?_ ?_
  · refine ⟨lab, hd0, rfl, hkeep, ⟨rfl, rfl, rfl, Nat.le_refl _, fun _ _ _ => rfl, fun _ _ _ => rfl⟩, fun k hk h => ?_⟩
    simp [Array.getD] at h
  · rintro L a' w' i o hL ho hf hall ⟨lab', hb⟩
    have hs := hstep L a' lab' w' i o ho hall hb
    obtain ⟨h1, h2, h3, h4, h5⟩ := hdst i o ho
    have hi : i < l.length := (List.getElem?_eq_some_iff.1 ho).1
    have key : ∀ v lab2 w2, Mv (fun _ => False) w' lab' w2 lab2 → C i v lab2 w2 → ∃ lab3, BldAt C dst keep a.tmps.size w lab l.length (L.setIfInBounds i true) (a'.put o.dst v) lab3 w2 := by
      intro v lab2 w2 m hc
      rw [h1]
      have hsz : dst i < a'.tmps.size := by rw [hb.size]; exact h3
      refine ⟨lab2, hb.defers, by simpa [Act.put] using hb.size, fun p hp => ?_, hb.mv.trans m (fun _ h => h), fun k hk hlk => ?_⟩
      · rw [put_getD hsz, if_neg (h4 p hp)]
        exact hb.keep p hp
      · rw [put_getD hsz]
        by_cases hki : k = i
        · subst hki; rw [if_pos rfl]; exact hc
        · rw [if_neg (fun e => hki (h5 k hk e))]
          refine hC k _ _ _ _ _ (hb.got k hk ?_) m
          rw [Array.getD_eq_getD_getElem?, Array.getElem?_setIfInBounds_ne (fun e => hki e.symm), ← Array.getD_eq_getD_getElem?] at hlk
          exact hlk
    have hw : Region.wanted o (yielded l.toArray a'.tmps) = true := by simp [Region.wanted, h2]
    unfold wpOp
    simp only [List.getElem?_toArray, ho, hw, if_true]
    left
    unfold Oper.wp
    rcases hs with ⟨v, w2, lab2, hrun, m, hc⟩ | ⟨f, args, hrun, hcalls⟩
    · rw [hrun]
      exact key v lab2 w2 m hc
    · rw [hrun, Oper.upon_enter]
      refine hcalls.mono ?_
      rintro e w2 ⟨v, lab2, rfl, m, hc⟩
      exact key v lab2 w2 m hc
  · rintro L a' w' hL hall ⟨lab', hb⟩
    exact hend a' lab' w' (fun k hk => hb.got k hk (hall k hk)) hb.defers hb.mv
end
end Go.Cf

/-
  A region that draws its order and makes values: the whole frame behind it.
-/
namespace Go.Cf
open Go.RowKit Go.Conc Go.Proofs
section
variable {P : Program} {Q : Exit → Act → World → Prop}
structure BlAt (C : Nat → Value → Lab → World → Prop) (dst : Nat → Nat) (a0 : Act) (w0 : World) (lab0 : Lab) (len : Nat) (L : Array Bool) (a : Act) (lab : Lab) (w : World) : Prop where
  defers : a.defers = []
  size : a.tmps.size = a0.tmps.size
  keep : ∀ j, (∀ k, k < len → dst k ≠ j) → a.tmps.getD j undef = a0.tmps.getD j undef
  mv : Mv (fun _ => False) w0 lab0 w lab
  got : ∀ k, k < len → L.getD k false = true → C k (a.tmps.getD (dst k) undef) lab w
theorem wp_region_frame {id : Nat} {l : List Oper} {a : Act} {w : World} (C : Nat → Value → Lab → World → Prop) (dst : Nat → Nat) (lab : Lab) (hm : P.follows .mixedOrders = true)
    (hdep : (List.range l.length).all (fun i => ((l[i]?).map fun o => o.after.all fun e => !Region.binds .any e || decide (e.on < i)).getD true) = true)
    (hdst : ∀ i o, l[i]? = some o → o.dst = some (dst i) ∧ o.guard = none ∧ dst i < a.tmps.size ∧ ∀ k, k < l.length → dst k = dst i → k = i)
    (hd0 : a.defers = [])
    (hC : ∀ k v lab w lab' w', C k v lab w → Mv (fun _ => False) w lab w' lab' → C k v lab' w')
    (hstep : ∀ L a' lab' w' i o, l[i]? = some o → (∀ e ∈ o.after, Region.binds .any e = true → L.getD e.on false = true) → BlAt C dst a w lab l.length L a' lab' w' → Does P o a' lab' w' (C i))
    (hend : ∀ a' lab' w', (∀ k, k < l.length → C k (a'.tmps.getD (dst k) undef) lab' w') → a'.defers = [] → a'.tmps.size = a.tmps.size → (∀ j, (∀ k, k < l.length → dst k ≠ j) → a'.tmps.getD j undef = a.tmps.getD j undef) → Mv (fun _ => False) w lab w' lab' → Q .normal a' w') :
    (Code.region id l.toArray true).wp P Q a w := by
  refine wp_region_inv (fun L a' w' => ∃ lab', BlAt C dst a w lab l.length L a' lab' w') hm hdep ?_ ?_ ?_
  · refine ⟨lab, hd0, rfl, fun _ _ => rfl, ⟨rfl, rfl, rfl, Nat.le_refl _, fun _ _ _ => rfl, fun _ _ _ => rfl⟩, fun k hk h => ?_⟩
    simp [Array.getD] at h
  · rintro L a' w' i o hL ho hf hall ⟨lab', hb⟩
    have hs := hstep L a' lab' w' i o ho hall hb
    obtain ⟨h1, h2, h3, h5⟩ := hdst i o ho
    have hi : i < l.length := (List.getElem?_eq_some_iff.1 ho).1
    have key : ∀ v lab2 w2, Mv (fun _ => False) w' lab' w2 lab2 → C i v lab2 w2 → ∃ lab3, BlAt C dst a w lab l.length (L.setIfInBounds i true) (a'.put o.dst v) lab3 w2 := by
      intro v lab2 w2 m hc
      rw [h1]
      have hsz : dst i < a'.tmps.size := by rw [hb.size]; exact h3
      refine ⟨lab2, hb.defers, by simpa [Act.put] using hb.size, fun j hj => ?_, hb.mv.trans m (fun _ h => h), fun k hk hlk => ?_⟩
      · rw [put_getD hsz, if_neg (fun e => hj i hi e.symm)]
        exact hb.keep j hj
      · rw [put_getD hsz]
        by_cases hki : k = i
        · subst hki; rw [if_pos rfl]; exact hc
        · rw [if_neg (fun e => hki (h5 k hk e))]
          refine hC k _ _ _ _ _ (hb.got k hk ?_) m
          rw [Array.getD_eq_getD_getElem?, Array.getElem?_setIfInBounds_ne (fun e => hki e.symm), ← Array.getD_eq_getD_getElem?] at hlk
          exact hlk
    have hw : Region.wanted o (yielded l.toArray a'.tmps) = true := by simp [Region.wanted, h2]
    unfold wpOp
    simp only [List.getElem?_toArray, ho, hw, if_true]
    left
    unfold Oper.wp
    rcases hs with ⟨v, w2, lab2, hrun, m, hc⟩ | ⟨f, args, hrun, hcalls⟩
    · rw [hrun]
      exact key v lab2 w2 m hc
    · rw [hrun, Oper.upon_enter]
      refine hcalls.mono ?_
      rintro e w2 ⟨v, lab2, rfl, m, hc⟩
      exact key v lab2 w2 m hc
  · rintro L a' w' hL hall ⟨lab', hb⟩
    exact hend a' lab' w' (fun k hk => hb.got k hk (hall k hk)) hb.defers hb.size hb.keep hb.mv
/-- A frame that differs from another one within a range alone. -/
theorem frame_range (t t0 : Array Value) (lo m : Nat) (hs : t.size = t0.size) (hlo : lo + m ≤ t0.size) (h : ∀ j, ¬ (lo ≤ j ∧ j < lo + m) → t.getD j undef = t0.getD j undef) :
    ∃ us : List Value, us.length = m ∧ t = (t0.toList.take lo ++ (us ++ t0.toList.drop (lo + m))).toArray := by
  have hl : t.toList.length = t.size := by simp
  have hl0 : t0.toList.length = t0.size := by simp
  have hget : ∀ j, ¬ (lo ≤ j ∧ j < lo + m) → t.toList[j]? = t0.toList[j]? := by
    intro j hj
    have hj' := h j hj
    simp only [Array.getD_eq_getD_getElem?] at hj'
    rw [Array.getElem?_toList, Array.getElem?_toList]
    rcases Nat.lt_or_ge j t.size with hlt | hge
    · rw [Array.getElem?_eq_getElem hlt, Array.getElem?_eq_getElem (by omega)] at hj' ⊢
      simpa using hj'
    · rw [Array.getElem?_eq_none hge, Array.getElem?_eq_none (by omega)]
  refine ⟨(t.toList.drop lo).take m, by rw [List.length_take, List.length_drop]; omega, ?_⟩
  apply Array.ext'
  rw [List.toList_toArray]
  apply List.ext_getElem?
  intro j
  rcases Nat.lt_or_ge j lo with h1 | h1
  · rw [List.getElem?_append_left (by rw [List.length_take]; omega), List.getElem?_take_of_lt h1]
    exact hget j (by omega)
  · have hlen1 : (t0.toList.take lo).length = lo := by rw [List.length_take]; omega
    rw [List.getElem?_append_right (by omega), hlen1]
    have hlen2 : ((t.toList.drop lo).take m).length = m := by rw [List.length_take, List.length_drop]; omega
    rcases Nat.lt_or_ge j (lo + m) with h2 | h2
    · rw [List.getElem?_append_left (by omega), List.getElem?_take_of_lt (by omega), List.getElem?_drop]
      congr 1
      omega
    · rw [List.getElem?_append_right (by omega), hlen2, List.getElem?_drop, hget j (by omega)]
      congr 1
      omega
/-- Where the operations of an assignment put what they make: from lo on, the last one into r. -/
def dstA (lo m r : Nat) (k : Nat) : Nat := if k = m then r else lo + k
theorem dstA_inj {lo m r k i : Nat} (hr : r < lo) (h : dstA lo m r k = dstA lo m r i) (_hk : k < m + 1) (_hi : i < m + 1) : k = i := by
  unfold dstA at h
  split at h <;> split at h <;> omega
/-- 'x := ..' in a region that draws its order. -/
theorem wp_region_assign {id : Nat} {l : List Oper} {a : Act} {w : World} (C : Nat → Value → Lab → World → Prop) (lo m r : Nat) (lab : Lab) (hm : P.follows .mixedOrders = true)
    (hdep : (List.range l.length).all (fun i => ((l[i]?).map fun o => o.after.all fun e => !Region.binds .any e || decide (e.on < i)).getD true) = true)
    (hlen : l.length = m + 1) (hr : r < lo) (hlo : lo + m ≤ a.tmps.size)
    (hdst : (List.range l.length).all (fun i => ((l[i]?).map fun o => o.dst == some (dstA lo m r i) && o.guard.isNone).getD true) = true)
    (hd0 : a.defers = [])
    (hC : ∀ k v lab w lab' w', C k v lab w → Mv (fun _ => False) w lab w' lab' → C k v lab' w')
    (hstep : ∀ L a' lab' w' i o, l[i]? = some o → (∀ e ∈ o.after, Region.binds .any e = true → L.getD e.on false = true) → BlAt C (dstA lo m r) a w lab l.length L a' lab' w' → Does P o a' lab' w' (C i))
    (hend : ∀ us v lab' w', us.length = m → C m v lab' w' → Mv (fun _ => False) w lab w' lab' → Q .normal ⟨((a.tmps.setIfInBounds r v).toList.take lo ++ (us ++ (a.tmps.setIfInBounds r v).toList.drop (lo + m))).toArray, []⟩ w') :
    (Code.region id l.toArray true).wp P Q a w := by
  have hd : ∀ i o, l[i]? = some o → o.dst = some (dstA lo m r i) ∧ o.guard = none := by
    intro i o ho
    have hi : i < l.length := (List.getElem?_eq_some_iff.1 ho).1
    have h1 := List.all_eq_true.1 hdst i (List.mem_range.2 hi)
    rw [ho] at h1
    simpa using h1
  refine wp_region_frame C (dstA lo m r) lab hm hdep (fun i o ho => ?_) hd0 hC hstep ?_
  · have hi : i < l.length := (List.getElem?_eq_some_iff.1 ho).1
    refine ⟨(hd i o ho).1, (hd i o ho).2, ?_, fun k hk e => dstA_inj hr e (by omega) (by omega)⟩
    unfold dstA
    split <;> omega
  · intro a' lab' w' hgot hdf hs hkeep mv
    have hv := hgot m (by omega)
    have hdm : dstA lo m r m = r := if_pos rfl
    rw [hdm] at hv
    obtain ⟨us, hl, ht⟩ := frame_range a'.tmps (a.tmps.setIfInBounds r (a'.tmps.getD r undef)) lo m (by simpa using hs) (by simpa using hlo) (fun j hj => by
      by_cases hjr : j = r
      · subst hjr
        simp only [Array.getD_eq_getD_getElem?]
        rw [Array.getElem?_setIfInBounds_self_of_lt (by omega)]
        rfl
      · have : a'.tmps.getD j undef = a.tmps.getD j undef := hkeep j (fun k hk e => by
          unfold dstA at e
          split at e <;> omega)
        rw [this]
        simp only [Array.getD_eq_getD_getElem?]
        rw [Array.getElem?_setIfInBounds_ne (fun e => hjr e.symm)])
    have := hend us _ lab' w' hl hv mv
    obtain ⟨t, d⟩ := a'
    simp only at hdf ht this
    subst hdf
    rw [ht]
    exact this
end
end Go.Cf

/-
  The parser in memory; its stacks.
-/
namespace Go.Cf
open Go.RowKit Go.Conc Go.Proofs
/-- A context: a map, or a list. -/
inductive CJ where
  | map (m : List (ByteArray × JV))
  | arr (l : List JV)
/-- v is the context c, open: its own block bears ℓ. -/
def CAt (B ℓ : Nat) (lab : Lab) (w : World) : CJ → Value → Prop
  | .map m, v => ∃ b t, v = .iface 61 (.map (some b)) ∧ Mp ℓ lab w b t ∧ t.map (fun x => (x.1, x.2.1)) = m ∧ isJs B lab w (t.map (·.2.1)) (t.map (·.2.2))
  | .arr l, v => ∃ s xs, v = .iface 75 s ∧ Rw B ℓ lab w 20 1 s l.length xs ∧ isJs B lab w l xs
/-- The contexts, the innermost ahead. -/
def CsAt (B : Nat) (lab : Lab) (w : World) : List CJ → List Value → Prop
  | [], [] => True
  | c :: cs, v :: vs => CAt B (10 + cs.length) lab w c v ∧ CsAt B lab w cs vs
  | _, _ => False
structure PX where
  L : LX
  cx : List CJ
  ks : List ByteArray
/-- What does not turn: the blocks of the parser, the lexer, the outermost map, the map of the environment; the stack of items. -/
structure PK where
  p : Nat
  b : Nat
  mp : Nat
  iv : Value
  ev : Nat
  ped : Bool
def PK.cells (K : PK) (top cv kv : Value) : Array Value :=
  #[.map (some K.mp), .pointer (some ⟨K.b, 0, none⟩), top, cv, kv, K.iv, .string { data := #[] }, .bool K.ped, .map (some K.ev)]
structure PAtX (B : Nat) (lab : Lab) (w : World) (K : PK) (X : PX) (top cv kv : Value) (vs : List Value) : Prop where
  cl : Cl 2 lab w K.p (K.cells top cv kv) 79
  lx : Lx B lab w K.b X.L
  cv : Rw B 3 lab w 20 1 cv vs.length vs.reverse
  kv : Rw B 4 lab w 9 1 kv X.ks.length (X.ks.map Value.string)
  cs : CsAt B lab w X.cx vs
  top : vs.head? = some top ∨ vs = []
  root : ∀ v, vs.getLast? = some v → v = .iface 61 (.map (some K.mp))
def PAt (B : Nat) (lab : Lab) (w : World) (K : PK) (X : PX) : Prop := ∃ top cv kv vs, PAtX B lab w K X top cv kv vs
/-- What the parser's functions may turn. -/
abbrev PM (x : Nat) : Prop := x ≠ 0 ∧ x ≠ 6 ∧ x ≠ 7
section
variable {B : Nat} {lab lab1 : Lab} {w w1 : World} {K : PK} {X : PX} {M : Nat → Prop}
theorem CAt.mv {ℓ : Nat} (m : Mv M w lab w1 lab1) (hℓ : ¬ M ℓ) (h6 : ¬ M 6) {c : CJ} {v : Value} (h : CAt B ℓ lab w c v) : CAt B ℓ lab1 w1 c v := by
  cases c with
  | map l => obtain ⟨b, t, h1, h2, h3, h4⟩ := h; exact ⟨b, t, h1, h2.mv m hℓ, h3, h4.mv m h6 _ _⟩
  | arr l => obtain ⟨s, xs, h1, h2, h3⟩ := h; exact ⟨s, xs, h1, h2.mv m hℓ, h3.mv m h6 _ _⟩
theorem CsAt.mv (m : Mv M w lab w1 lab1) (h6 : ¬ M 6) : ∀ {cs : List CJ} {vs : List Value}, (∀ i, i < cs.length → ¬ M (10 + i)) → CsAt B lab w cs vs → CsAt B lab1 w1 cs vs
  | [], [], _, h => h
  | c :: cs, v :: vs, hl, h => ⟨h.1.mv m (hl _ (by simp)) h6, h.2.mv m h6 (fun i hi => hl i (by simp; omega))⟩
  | [], _ :: _, _, h => h.elim
  | _ :: _, [], _, h => h.elim
theorem info20 : (Tryz.prog.info? 20).map (fun i => (i.zero, i.size, i.bytes)) = some (some .nilIface, 1, 16) := by kernel_rfl
theorem info9 : (Tryz.prog.info? 9).map (fun i => (i.zero, i.size, i.bytes)) = some (some (.string { data := #[] }), 1, 16) := by kernel_rfl
theorem Cl.cell {ℓ g : Nat} {cs : Array Value} {t : TypeId} (h : Cl ℓ lab w g cs t) (i : Nat) : w.cell? ⟨g, i, none⟩ = cs[i]? := blk_cell h.1 i
theorem Cl.free {ℓ g : Nat} {cs : Array Value} {t : TypeId} (h : Cl ℓ lab w g cs t) (i : Nat) : w.frozen? ⟨g, i, none⟩ = false := blk_free h.1 i
theorem Cl.set {ℓ g : Nat} {cs : Array Value} {t : TypeId} (h : Cl ℓ lab w g cs t) (i : Nat) (u : Value) : Cl ℓ lab (w.setCell ⟨g, i, none⟩ u) g (cs.setIfInBounds i u) t := ⟨blk_setCell h.1 i u, h.2⟩
/-- A slice's element is appended, and the new slice stored in the parser: what of the rest stays. -/
theorem Rw.appended {ℓ e size n n' : Nat} {v v1 : Value} {xs ys : List Value} (h : Rw B ℓ lab w e size v n xs) (ho : w1.ownsRow B e size v1 n' ys) (_hg : w.grownBy w1 v.ownBlock) (hat : v1.ownBlock = v.ownBlock ∨ ∃ b, v1.ownBlock = some b ∧ w.heap.size ≤ b) :
    Rw B ℓ (lab.ext w.heap.size ℓ) w1 e size v1 n' ys := by
  refine ⟨ho, fun k hk => ?_⟩
  rcases hat with e | ⟨b, e, hb⟩
  · rw [e] at hk
    have hlt := (h.1.lt k hk).2
    rw [Lab.ext_lt hlt]
    exact h.2 k hk
  · rw [hk] at e
    cases e
    exact Lab.ext_ge hb
set_option maxHeartbeats 400000 in
theorem pushKey_c (h : PAt B lab w K X) (hB : B ≤ w.heap.size) (hlen : X.ks.length ≤ 1000000) (s : ByteArray) :
    Calls Tryz.prog 64 #[.pointer (some ⟨K.p, 0, none⟩), .string s] w fun e w' => e = .returned (.tuple #[]) ∧ ∃ lab', PAt B lab' w' K { X with ks := X.ks ++ [s] } ∧ Mv PM w lab w' lab' := by
  obtain ⟨top, cv, kv, vs, h⟩ := h
  have c4 : w.cell? ⟨K.p, 4, none⟩ = some kv := h.cl.cell 4
  have hown := h.kv.1
  go_enter Tryz.func64, Tryz.ntmps64
  go_wp2_with (at_builtin; refine app_one B rfl _ _ 23 9 (.string { data := #[] }) 1 16 rfl Tryz.underlying23 info9 rfl (by decide) (by decide) kv X.ks.length (X.ks.map Value.string) [.string s] rfl rfl rfl (by simp; rfl) hown hB (by omega) ?_)
  intro v1 w1 hown1 hg1 hat1
  have m1 : Mv (· = 4) w lab w1 (lab.ext w.heap.size 4) := Mv.grown hg1 lab 4 (fun k hk => h.kv.2 k hk)
  have hcl := h.cl.mv m1 (by decide)
  have c4' : w1.cell? ⟨K.p, 4, none⟩ = some kv := hcl.cell 4
  have f4' : w1.frozen? ⟨K.p, 4, none⟩ = false := hcl.free 4
  have m2 : Mv (· = 2) w1 (lab.ext w.heap.size 4) (w1.setCell ⟨K.p, 4, none⟩ v1) (lab.ext w.heap.size 4) := Mv.setCell _ _ _ _ hcl.2
  have key : PAt B (lab.ext w.heap.size 4) (w1.setCell ⟨K.p, 4, none⟩ v1) K { X with ks := X.ks ++ [s] } := by
    refine ⟨top, cv, v1, vs, ?_⟩
    exact {
      cl := hcl.set 4 v1
      lx := (h.lx.mv m1 (by decide)).mv m2 (by decide)
      cv := (h.cv.mv m1 (by decide)).mv m2 (by decide)
      kv := by
        have := (h.kv.appended hown1 hg1 hat1).mv m2 (by decide)
        simpa using this
      cs := (h.cs.mv m1 (by decide) (fun i _ => by omega)).mv m2 (by decide) (fun i _ => by omega)
      top := h.top
      root := h.root }
  have mm : Mv PM w lab (w1.setCell ⟨K.p, 4, none⟩ v1) (lab.ext w.heap.size 4) := (m1.mono (M' := PM) (by rintro x rfl; decide)).trans m2 (by rintro x rfl; decide)
  obtain ⟨g, cap, e7, _, _⟩ := hown1.form (by omega)
  clear hcl m1 m2 hown hown1 hg1 hat1 h c4
  subst e7
  go_wp2
  go_end0
  exact ⟨rfl, _, key, mm⟩
end
end Go.Cf

/-
  The parser's stacks: a key is popped; contexts are pushed and popped.
-/
namespace Go.Cf
open Go.RowKit Go.Conc Go.Proofs
section
variable {B : Nat} {lab lab1 : Lab} {w w1 : World} {K : PK} {X : PX} {M : Nat → Prop}
theorem Mv.aDraw (M : Nat → Prop) (w : World) (lab : Lab) : Mv M w lab w.drew lab := ⟨rfl, rfl, rfl, Nat.le_refl _, fun _ _ _ => rfl, fun _ _ _ => rfl⟩
/-- What turns is the caller's own. -/
theorem PAt.mv (h : PAt B lab w K X) (m : Mv M w lab w1 lab1) (hM : ∀ x, x ≠ 7 → ¬ M x) : PAt B lab1 w1 K X := by
  obtain ⟨top, cv, kv, vs, h⟩ := h
  exact ⟨top, cv, kv, vs, h.cl.mv m (hM _ (by decide)), h.lx.mv m (hM _ (by decide)), h.cv.mv m (hM _ (by decide)), h.kv.mv m (hM _ (by decide)), h.cs.mv m (hM _ (by decide)) (fun i _ => hM _ (by omega)), h.top, h.root⟩
theorem Rw.shorter {ℓ e n m : Nat} {g cap : Nat} {xs ys : List Value} (h : Rw B ℓ lab w e 1 (.slice (some ⟨g, 0, none⟩) n cap) n (xs ++ ys)) (hm : xs.length = m) (hmn : m ≤ n) : Rw B ℓ lab w e 1 (.slice (some ⟨g, 0, none⟩) m cap) m xs :=
  ⟨own_shorter h.1 hm hmn, h.2⟩
theorem Cl.ne {ℓ ℓ' g g' : Nat} {cs : Array Value} {t : TypeId} (h : Cl ℓ lab w g cs t) (h' : lab g' = ℓ') (hne : ℓ ≠ ℓ') : g ≠ g' := by
  rintro rfl; exact hne (h.2.symm.trans h')
set_option maxHeartbeats 400000 in
theorem popKey_c (st : List ByteArray) (s : ByteArray) {top cv kv : Value} {vs : List Value} (h : PAtX B lab w K X top cv kv vs) (hks : X.ks = st ++ [s]) (hlen : st.length ≤ 1000000) :
    Calls Tryz.prog 96 #[.pointer (some ⟨K.p, 0, none⟩)] w fun e w' => e = .returned (.string s) ∧ (∃ kv', PAtX B lab w' K { X with ks := st } top cv kv' vs) ∧ Mv (· = 2) w lab w' lab := by
  have hown := h.kv
  rw [hks, List.length_append, List.length_singleton, List.map_append] at hown
  obtain ⟨g, cap, rfl, hcap, hmx, hcell, cur, hgb⟩ := own_open hown.1 (by omega)
  have hcl := hcell st.length (.string s) (by simp)
  have hown2 := Rw.shorter (m := st.length) hown (by simp) (by omega)
  have c4 : w.cell? ⟨K.p, 4, none⟩ = some (.slice (some ⟨g, 0, none⟩) (st.length + 1) cap) := h.cl.cell 4
  have f4 : w.frozen? ⟨K.p, 4, none⟩ = false := h.cl.free 4
  have m2 : Mv (· = 2) w lab (w.setCell ⟨K.p, 4, none⟩ (.slice (some ⟨g, 0, none⟩) st.length cap)) lab := Mv.setCell _ _ _ _ h.cl.2
  have hne : g ≠ K.p := (h.cl.ne (hown.2 g rfl) (by decide)).symm
  have key : ∃ kv', PAtX B lab (w.setCell ⟨K.p, 4, none⟩ (.slice (some ⟨g, 0, none⟩) st.length cap)) K { X with ks := st } top cv kv' vs := by
    refine ⟨.slice (some ⟨g, 0, none⟩) st.length cap, ?_⟩
    exact {
      cl := h.cl.set 4 _
      lx := h.lx.mv m2 (by decide)
      cv := h.cv.mv m2 (by decide)
      kv := hown2.mv m2 (by decide)
      cs := h.cs.mv m2 (by decide) (fun i _ => by omega)
      top := h.top
      root := h.root }
  have mm := m2
  clear m2 hown hown2 h hcell hgb
  have hpos : ((st.length : Int) + 1 == 0) = false := by simp; omega
  have hc2 : st.length ≤ cap := by omega
  unfold maxLen at hmx
  have HK := Lib.hid hks
  clear hks
  go_enter Tryz.func96, Tryz.ntmps96
  go_wp2
  go_ret
  exact ⟨rfl, key, mm⟩
set_option maxHeartbeats 400000 in
theorem CsAt.length : ∀ {cs : List CJ} {vs : List Value}, CsAt B lab w cs vs → vs.length = cs.length
  | [], [], _ => rfl
  | _ :: _, _ :: _, h => by simp [h.2.length]
  | [], _ :: _, h => h.elim
  | _ :: _, [], h => h.elim
theorem CAt.form {ℓ : Nat} {c : CJ} {v : Value} (h : CAt B ℓ lab w c v) : ∃ t u, v = .iface t u := by
  cases c with
  | map l => obtain ⟨b, t, h1, _⟩ := h; exact ⟨_, _, h1⟩
  | arr l => obtain ⟨s, xs, h1, _⟩ := h; exact ⟨_, _, h1⟩
set_option maxHeartbeats 400000 in
/-- A context is pushed: an empty map, or an empty list: what it is stands beside. -/
theorem pushContext_c (h : PAt B lab w K X) (hB : B ≤ w.heap.size) (hlen : X.cx.length ≤ 1000000) (c : CJ) (t : TypeId) (u : Value) (hc : CAt B (10 + X.cx.length) lab w c (.iface t u)) (hroot : X.cx = [] → Value.iface t u = .iface 61 (.map (some K.mp))) :
    Calls Tryz.prog 54 #[.pointer (some ⟨K.p, 0, none⟩), .iface t u] w fun e w' => e = .returned (.tuple #[]) ∧ ∃ lab', PAt B lab' w' K { X with cx := c :: X.cx } ∧ Mv PM w lab w' lab' := by
  obtain ⟨top, cv, kv, vs, h⟩ := h
  have c3 : w.cell? ⟨K.p, 3, none⟩ = some cv := h.cl.cell 3
  have hown := h.cv.1
  have hvl : vs.length = X.cx.length := h.cs.length
  go_enter Tryz.func54, Tryz.ntmps54
  go_wp2_with (at_builtin; refine app_one B rfl _ _ 75 20 .nilIface 1 16 rfl Tryz.underlying75 info20 rfl (by decide) (by decide) cv vs.length vs.reverse [.iface t u] rfl rfl rfl (by simp; rfl) hown hB (by omega) ?_)
  intro v1 w1 hown1 hg1 hat1
  have m1 : Mv (· = 3) w lab w1 (lab.ext w.heap.size 3) := Mv.grown hg1 lab 3 (fun k hk => h.cv.2 k hk)
  have hcl := h.cl.mv m1 (by decide)
  have c3' : w1.cell? ⟨K.p, 3, none⟩ = some cv := hcl.cell 3
  have f3' : w1.frozen? ⟨K.p, 3, none⟩ = false := hcl.free 3
  have c2' : w1.cell? ⟨K.p, 2, none⟩ = some top := hcl.cell 2
  have f2' : w1.frozen? ⟨K.p, 2, none⟩ = false := hcl.free 2
  have m2 : Mv (· = 2) w1 (lab.ext w.heap.size 3) (w1.setCell ⟨K.p, 3, none⟩ v1) (lab.ext w.heap.size 3) := Mv.setCell _ _ _ _ hcl.2
  have m3 : Mv (· = 2) (w1.setCell ⟨K.p, 3, none⟩ v1) (lab.ext w.heap.size 3) ((w1.setCell ⟨K.p, 3, none⟩ v1).setCell ⟨K.p, 2, none⟩ (.iface t u)) (lab.ext w.heap.size 3) := Mv.setCell _ _ _ _ hcl.2
  have m23 := m2.trans m3 (fun _ h => h)
  have hroot2 : ∀ v, (Value.iface t u :: vs).getLast? = some v → v = .iface 61 (.map (some K.mp)) := by
    intro v hv
    cases vs with
    | nil =>
      simp only [List.getLast?_singleton, Option.some.injEq] at hv
      rw [← hv]
      exact hroot (List.length_eq_zero_iff.1 hvl.symm)
    | cons x xs => exact h.root v (by simpa using hv)
  have key : PAt B (lab.ext w.heap.size 3) ((w1.setCell ⟨K.p, 3, none⟩ v1).setCell ⟨K.p, 2, none⟩ (.iface t u)) K { X with cx := c :: X.cx } := by
    refine ⟨.iface t u, v1, kv, .iface t u :: vs, ?_⟩
    exact {
      cl := (hcl.set 3 v1).set 2 _
      lx := (h.lx.mv m1 (by decide)).mv m23 (by decide)
      cv := by
        have := (h.cv.appended hown1 hg1 hat1).mv m23 (by decide)
        simpa [hvl] using this
      kv := (h.kv.mv m1 (by decide)).mv m23 (by decide)
      cs := ⟨(hc.mv m1 (by omega) (by decide)).mv m23 (by omega) (by decide), (h.cs.mv m1 (by decide) (fun i _ => by omega)).mv m23 (by decide) (fun i _ => by omega)⟩
      top := .inl rfl
      root := hroot2 }
  have mm : Mv PM w lab ((w1.setCell ⟨K.p, 3, none⟩ v1).setCell ⟨K.p, 2, none⟩ (.iface t u)) (lab.ext w.heap.size 3) := (m1.mono (M' := PM) (by rintro x rfl; decide)).trans m23 (by rintro x rfl; decide)
  obtain ⟨g, cap, e7, _, _⟩ := hown1.form (by omega)
  clear hroot2 hroot hcl m1 m2 m3 m23 hown hown1 hg1 hat1 h c3 hc
  subst e7
  go_wp2
  go_end0
  exact ⟨rfl, _, key, mm⟩
end
end Go.Cf

/-
  A value is laid into the innermost context.
-/
namespace Go.Cf
open Go.RowKit Go.Conc Go.Proofs
/-- A pair among pairs whose keys rise. -/
def insL {α : Type} (x : ByteArray × α) : List (ByteArray × α) → List (ByteArray × α)
  | [] => [x]
  | y :: r => if bytesBefore x.1.data.toList y.1.data.toList then x :: y :: r else y :: insL x r
/-- 'm[k] = x'. -/
def putL {α : Type} (k : ByteArray) (x : α) (l : List (ByteArray × α)) : List (ByteArray × α) := insL (k, x) (l.filter fun p => !(p.1.data.toList == k.data.toList))
theorem insL_map {α β : Type} (g : α → β) (k : ByteArray) (x : α) : ∀ l : List (ByteArray × α), (insL (k, x) l).map (fun p => (p.1, g p.2)) = insL (k, g x) (l.map fun p => (p.1, g p.2))
  | [] => rfl
  | y :: r => by
    simp only [insL, List.map_cons]
    split
    · rfl
    · simp only [List.map_cons, insL_map g k x r]
theorem putL_map {α β : Type} (g : α → β) (k : ByteArray) (x : α) (l : List (ByteArray × α)) : (putL k x l).map (fun p => (p.1, g p.2)) = putL k (g x) (l.map fun p => (p.1, g p.2)) := by
  simp only [putL, insL_map, List.filter_map]
  rfl
theorem mem_insL {α : Type} {x y : ByteArray × α} : ∀ {l : List (ByteArray × α)}, y ∈ insL x l → y = x ∨ y ∈ l
  | [], h => by simp [insL] at h; exact .inl h
  | z :: r, h => by
    simp only [insL] at h
    split at h
    · simpa using h
    · rcases List.mem_cons.1 h with h | h
      · exact .inr (by simp [h])
      · rcases mem_insL h with h | h
        · exact .inl h
        · exact .inr (by simp [h])
theorem mem_putL {α : Type} {k : ByteArray} {x : α} {y : ByteArray × α} {l : List (ByteArray × α)} (h : y ∈ putL k x l) : y = (k, x) ∨ y ∈ l := by
  rcases mem_insL h with h | h
  · exact .inl h
  · exact .inr (List.mem_filter.1 h).1
theorem insert_entD (x : Ent) : ∀ t : List Ent, DataW.insert (.string x.1.data.toList, .held x.2.2) (t.map fun x => ((Lit.string x.1.data.toList, DataW.held x.2.2) : Lit × DataW Value)) = (insL x t).map fun x => (.string x.1.data.toList, .held x.2.2)
  | [] => rfl
  | y :: r => by
    by_cases h : bytesBefore x.1.data.toList y.1.data.toList = true
    · simp only [insL, List.map_cons, DataW.insert, Lit.before, h, if_true]
    · simp only [insL, List.map_cons, DataW.insert, Lit.before, h, insert_entD x r, if_false, Bool.false_eq_true]
theorem put_entD (k : ByteArray) (x : JV × Value) (t : List Ent) : (entD t).put (.string k.data.toList) (.held x.2) = entD (putL k x t) := by
  unfold entD DataW.put putL
  simp only [List.filter_map]
  rw [← insert_entD]
  rfl
section
variable {B : Nat} {lab lab1 : Lab} {w w1 : World} {K : PK} {X : PX} {M : Nat → Prop}
theorem isJs_iff : ∀ t : List Ent, isJs B lab w (t.map (·.2.1)) (t.map (·.2.2)) ↔ ∀ x ∈ t, isJ B lab w x.2.1 x.2.2
  | [] => by simp [isJs]
  | x :: t => by simp [isJs, isJs_iff t]
theorem isJs_app : ∀ {l : List JV} {xs : List Value} {j : JV} {v : Value}, isJs B lab w l xs → isJ B lab w j v → isJs B lab w (l ++ [j]) (xs ++ [v])
  | [], [], _, _, _, h => by simpa [isJs] using h
  | _ :: _, _ :: _, _, _, h, h' => by
    simp only [isJs, List.cons_append] at h ⊢
    exact ⟨h.1, isJs_app h.2 h'⟩
  | [], _ :: _, _, _, h, _ => by simp [isJs] at h
  | _ :: _, [], _, _, h, _ => by simp [isJs] at h
theorem Mp.exact {b n : Nat} {t : List Ent} (h : w.ownsMap Tryz.prog 9 anyR b n (entD t)) : w.ownsMap Tryz.prog 9 anyR b t.length (entD t) := by
  obtain ⟨es, clock, hb, F, hs, hD⟩ := h
  refine ⟨es, clock, hb, F, ?_, hD⟩
  have h1 := length_read (P := Tryz.prog) (k := 9) (R0 := anyR) es
  unfold entD at hD
  injection hD with hD
  rw [← hD] at h1
  simp at h1
  omega
end
end Go.Cf

/-
  The parser lays a value into the innermost context: setValue.
-/
namespace Go.Cf
open Go.RowKit Go.Conc Go.Proofs
theorem ta_61_75 (u : Value) (w : World) : (Instr.typeAssert (.iface 61 u) 20 75 true).run Tryz.prog w = .ok (.tuple #[.slice none 0 0, .bool false]) w := by kernel_rfl
theorem ta_75_75 (u : Value) (w : World) : (Instr.typeAssert (.iface 75 u) 20 75 true).run Tryz.prog w = .ok (.tuple #[u, .bool true]) w := by kernel_rfl
theorem ta_61_61 (u : Value) (w : World) : (Instr.typeAssert (.iface 61 u) 20 61 true).run Tryz.prog w = .ok (.tuple #[u, .bool true]) w := by kernel_rfl
theorem ta_75_61 (u : Value) (w : World) : (Instr.typeAssert (.iface 75 u) 20 61 true).run Tryz.prog w = .ok (.tuple #[.map none, .bool false]) w := by kernel_rfl
attribute [local go_sem ↓] ta_61_75 ta_75_75 ta_61_61 ta_75_61
section
variable {B : Nat} {lab lab1 : Lab} {w w1 : World} {K : PK} {X : PX} {M : Nat → Prop}
theorem CsAt.form : ∀ {cs : List CJ} {c : CJ} {vs : List Value}, CsAt B lab w (c :: cs) vs → ∃ v vs', vs = v :: vs' ∧ CAt B (10 + cs.length) lab w c v ∧ CsAt B lab w cs vs'
  | _, _, _ :: _, h => ⟨_, _, rfl, h.1, h.2⟩
set_option maxRecDepth 100000 in
set_option maxHeartbeats 1000000 in
theorem setValue_map (m : List (ByteArray × JV)) (cs : List CJ) (st : List ByteArray) (s : ByteArray) (h : PAt B lab w K X) (hped : K.ped = false) (hcx : X.cx = .map m :: cs) (hks : X.ks = st ++ [s])
    (hlen : st.length ≤ 1000000) (hm : m.length ≤ 1000000) (hs : s.size ≤ 1000000) (j : JV) (t : TypeId) (u : Value) (hj : isJ B lab w j (.iface t u)) :
    Calls Tryz.prog 63 #[.pointer (some ⟨K.p, 0, none⟩), .iface t u] w fun e w' => e = .returned (.tuple #[]) ∧ ∃ lab', PAt B lab' w' K { X with cx := .map (putL s j m) :: cs, ks := st } ∧ Mv PM w lab w' lab' := by
  obtain ⟨top, cv, kv, vs, h⟩ := h
  obtain ⟨v, vs', rfl, hc, hcs⟩ := CsAt.form (hcx ▸ h.cs)
  obtain ⟨b, es, rfl, hmp, hes, hjs⟩ := hc
  have htop : top = .iface 61 (.map (some b)) := by have := h.top; simp at this; exact this.symm
  subst htop
  have c2 : w.cell? ⟨K.p, 2, none⟩ = some (.iface 61 (.map (some b))) := h.cl.cell 2
  have c7 : w.cell? ⟨K.p, 7, none⟩ = some (.bool K.ped) := h.cl.cell 7
  go_enter Tryz.func63, Tryz.ntmps63
  go_wp2_with fail
  refine (popKey_c st s h hks hlen).mono ?_
  rintro e w1 ⟨rfl, ⟨kv1, h1⟩, m1⟩
  have c7 : w1.cell? ⟨K.p, 7, none⟩ = some (.bool K.ped) := h1.cl.cell 7
  rw [hped] at c7
  have hcs1 := hcs.mv m1 (by decide) (fun i _ => by omega)
  have hmp1 := hmp.mv m1 (by omega)
  have hj1 := isJ.mv m1 (by decide) _ _ hj
  have hjs1 := isJs.mv m1 (by decide) _ _ hjs
  go_wp2_with (at_mapUpdate; refine wpList_mapUpdate_own _ rfl _ _ _ 61 rfl 9 20 (Maps.string_keyed Tryz.underlying9) Tryz.underlying61 anyR b es.length (entD es) rfl hmp1.1 ?_ (.string s) (.iface t u) (.string s.data.toList) rfl rfl (WideMaps.keyOf_string_mk (P := Tryz.prog) Tryz.underlying9 ?_) (.held (.iface t u)) [] rfl ?_)
  · have := congrArg List.length hes; simp at this; unfold maxLen; omega
  · unfold maxLen; omega
  intro w2 hown2 hg2
  have m2 : Mv (fun x => x = 10 + cs.length) w1 lab w2 (lab.ext w1.heap.size (10 + cs.length)) := Mv.grown hg2 lab _ (fun k hk => by cases hk; exact hmp1.2)
  have hmp2 : Mp (10 + cs.length) (lab.ext w1.heap.size (10 + cs.length)) w2 b (putL s (j, .iface t u) es) := by
    refine ⟨?_, by rw [Lab.ext_lt hmp1.1.lt]; exact hmp1.2⟩
    rw [put_entD s (j, .iface t u) es] at hown2
    exact Mp.exact hown2
  have key : PAt B (lab.ext w1.heap.size (10 + cs.length)) w2 K { X with cx := .map (putL s j m) :: cs, ks := st } := by
    refine ⟨.iface 61 (.map (some b)), cv, kv1, .iface 61 (.map (some b)) :: vs', ?_⟩
    exact {
      cl := h1.cl.mv m2 (by omega)
      lx := h1.lx.mv m2 (by omega)
      cv := h1.cv.mv m2 (by omega)
      kv := h1.kv.mv m2 (by omega)
      cs := by
        refine ⟨⟨b, putL s (j, .iface t u) es, rfl, hmp2, ?_, ?_⟩, hcs1.mv m2 (by omega) (fun i hi => by omega)⟩
        · rw [← hes]
          exact putL_map (fun p : JV × Value => p.1) s (j, .iface t u) es
        · rw [isJs_iff]
          intro x hx
          rcases mem_putL hx with rfl | hx
          · exact isJ.mv m2 (by omega) _ _ hj1
          · exact isJ.mv m2 (by omega) _ _ ((isJs_iff es).1 hjs1 x hx)
      top := .inl rfl
      root := h1.root }
  have mm : Mv PM w lab w2 (lab.ext w1.heap.size (10 + cs.length)) := (m1.mono (M' := PM) (by rintro x rfl; decide)).trans m2 (by rintro x rfl; simp [PM]; omega)
  clear m2 hown2 hg2 hmp2 h1 h hmp1 hmp
  go_wp2
  go_end0
  exact ⟨rfl, _, key, mm⟩
theorem Rw.setLast {ℓ e n g cap : Nat} {xs : List Value} {x y : Value} (h : Rw B ℓ lab w e 1 (.slice (some ⟨g, 0, none⟩) n cap) n (xs ++ [x])) : Rw B ℓ lab (w.setCell ⟨g, xs.length, none⟩ y) e 1 (.slice (some ⟨g, 0, none⟩) n cap) n (xs ++ [y]) := by
  obtain ⟨⟨hx, ⟨h0, _⟩ | ⟨g', cap', cur, hv, hb, hblk, h1, h2, h3, h4⟩⟩, hl⟩ := h
  · cases h0
  · simp only [Value.slice.injEq, Option.some.injEq, Addr.mk.injEq] at hv
    obtain ⟨⟨rfl, _, _⟩, _, rfl⟩ := hv
    refine ⟨⟨by simpa using hx, .inr ⟨g, cap, _, rfl, hb, blk_setCell hblk _ _, h1, h2, by simpa using h3, ?_⟩⟩, hl⟩
    simp only [List.length_append, List.length_singleton, Nat.mul_one] at hx h4
    rw [Nat.mul_one, Array.toList_setIfInBounds, List.take_set, h4, List.set_append_right _ _ (Nat.le_refl _)]
    simp
set_option maxRecDepth 100000 in
set_option maxHeartbeats 1000000 in
theorem setValue_arr (l : List JV) (cs : List CJ) (h : PAt B lab w K X) (hB : B ≤ w.heap.size) (hcx : X.cx = .arr l :: cs) (hlen : cs.length ≤ 1000000) (hm : l.length ≤ 1000000) (j : JV) (t : TypeId) (u : Value) (hj : isJ B lab w j (.iface t u)) :
    Calls Tryz.prog 63 #[.pointer (some ⟨K.p, 0, none⟩), .iface t u] w fun e w' => e = .returned (.tuple #[]) ∧ ∃ lab', PAt B lab' w' K { X with cx := .arr (l ++ [j]) :: cs } ∧ Mv PM w lab w' lab' := by
  obtain ⟨top, cv, kv, vs, h⟩ := h
  obtain ⟨v, vs', rfl, hc, hcs⟩ := CsAt.form (hcx ▸ h.cs)
  obtain ⟨s, xs, rfl, hr, hjs⟩ := hc
  have htop : top = .iface 75 s := by have := h.top; simp at this; exact this.symm
  subst htop
  have hvl : vs'.length = cs.length := hcs.length
  have c2 : w.cell? ⟨K.p, 2, none⟩ = some (.iface 75 s) := h.cl.cell 2
  have hown := hr.1
  go_enter Tryz.func63, Tryz.ntmps63
  go_wp2_with (at_builtin; refine app_one B rfl _ _ 75 20 .nilIface 1 16 rfl Tryz.underlying75 info20 rfl (by decide) (by decide) s l.length xs [.iface t u] rfl rfl rfl (by simp; rfl) hown hB (by omega) ?_)
  intro v1 w1 hown1 hg1 hat1
  have m1 : Mv (· = 10 + cs.length) w lab w1 (lab.ext w.heap.size (10 + cs.length)) := Mv.grown hg1 lab _ (fun k hk => hr.2 k hk)
  have hcl := h.cl.mv m1 (by omega)
  obtain ⟨g, cap, e7, _, _⟩ := hown1.form (by omega)
  subst e7
  have hrw := hr.appended hown1 hg1 hat1
  have hcv := h.cv.mv m1 (by omega)
  simp only [List.length_cons, List.reverse_cons] at hcv
  obtain ⟨g3, cap3, rfl, hcap3, hmx3, hcell3, cur3, hgb3⟩ := own_open hcv.1 (by omega)
  have hl1 := hcell3 vs'.length (.iface 75 s) (by simp)
  have c2' : w1.cell? ⟨K.p, 2, none⟩ = some (.iface 75 s) := hcl.cell 2
  have f2' : w1.frozen? ⟨K.p, 2, none⟩ = false := hcl.free 2
  have c3' : w1.cell? ⟨K.p, 3, none⟩ = some (.slice (some ⟨g3, 0, none⟩) (vs'.length + 1) cap3) := hcl.cell 3
  have fg3 : w1.frozen? ⟨g3, vs'.length, none⟩ = false := blk_free hgb3 _
  have hne : g3 ≠ K.p := (hcl.ne (hcv.2 g3 rfl) (by decide)).symm
  have hne2 : K.p ≠ g3 := fun e => hne e.symm
  have m2 : Mv (· = 2) w1 (lab.ext w.heap.size (10 + cs.length)) (w1.setCell ⟨K.p, 2, none⟩ (.iface 75 (.slice (some ⟨g, 0, none⟩) (l.length + 1) cap))) (lab.ext w.heap.size (10 + cs.length)) := Mv.setCell _ _ _ _ hcl.2
  have hcv2 := hcv.mv m2 (by decide)
  have m3 : Mv (· = 3) (w1.setCell ⟨K.p, 2, none⟩ (.iface 75 (.slice (some ⟨g, 0, none⟩) (l.length + 1) cap))) (lab.ext w.heap.size (10 + cs.length)) ((w1.setCell ⟨K.p, 2, none⟩ (.iface 75 (.slice (some ⟨g, 0, none⟩) (l.length + 1) cap))).setCell ⟨g3, vs'.length, none⟩ (.iface 75 (.slice (some ⟨g, 0, none⟩) (l.length + 1) cap))) (lab.ext w.heap.size (10 + cs.length)) := Mv.setCell _ _ _ _ (hcv2.2 g3 rfl)
  have hcv3 := Rw.setLast (y := .iface 75 (.slice (some ⟨g, 0, none⟩) (l.length + 1) cap)) hcv2
  rw [List.length_reverse] at hcv3
  have hroot2 : ∀ v, (Value.iface 75 (.slice (some ⟨g, 0, none⟩) (l.length + 1) cap) :: vs').getLast? = some v → v = .iface 61 (.map (some K.mp)) := by
    intro v hv
    cases vs' with
    | nil => have := h.root (.iface 75 s) (by simp); injection this with h1; cases h1
    | cons x xs => exact h.root v (by simpa using hv)
  have key : PAt B (lab.ext w.heap.size (10 + cs.length)) ((w1.setCell ⟨K.p, 2, none⟩ (.iface 75 (.slice (some ⟨g, 0, none⟩) (l.length + 1) cap))).setCell ⟨g3, vs'.length, none⟩ (.iface 75 (.slice (some ⟨g, 0, none⟩) (l.length + 1) cap))) K { X with cx := .arr (l ++ [j]) :: cs } := by
    refine ⟨.iface 75 (.slice (some ⟨g, 0, none⟩) (l.length + 1) cap), .slice (some ⟨g3, 0, none⟩) (vs'.length + 1) cap3, kv, .iface 75 (.slice (some ⟨g, 0, none⟩) (l.length + 1) cap) :: vs', ?_⟩
    exact {
      cl := (hcl.set 2 _).mv m3 (by decide)
      lx := ((h.lx.mv m1 (by omega)).mv m2 (by decide)).mv m3 (by decide)
      cv := by simpa using hcv3
      kv := ((h.kv.mv m1 (by omega)).mv m2 (by decide)).mv m3 (by decide)
      cs := by
        refine ⟨⟨_, xs ++ [.iface t u], rfl, ?_, ?_⟩, ((hcs.mv m1 (by omega) (fun i hi => by omega)).mv m2 (by decide) (fun i hi => by omega)).mv m3 (by decide) (fun i hi => by omega)⟩
        · simpa using (hrw.mv m2 (by omega)).mv m3 (by omega)
        · refine isJs_app ?_ ?_
          · exact isJs.mv m3 (by decide) _ _ (isJs.mv m2 (by decide) _ _ (isJs.mv m1 (by omega) _ _ hjs))
          · exact isJ.mv m3 (by decide) _ _ (isJ.mv m2 (by decide) _ _ (isJ.mv m1 (by omega) _ _ hj))
      top := .inl rfl
      root := hroot2 }
  have mm : Mv PM w lab ((w1.setCell ⟨K.p, 2, none⟩ (.iface 75 (.slice (some ⟨g, 0, none⟩) (l.length + 1) cap))).setCell ⟨g3, vs'.length, none⟩ (.iface 75 (.slice (some ⟨g, 0, none⟩) (l.length + 1) cap))) (lab.ext w.heap.size (10 + cs.length)) :=
    ((m1.mono (M' := PM) (by rintro x rfl; simp [PM]; omega)).trans m2 (by rintro x rfl; decide)).trans m3 (by rintro x rfl; decide)
  have hw : IntKind.wrap .i64 ((vs'.length : Nat) : Int) = ((vs'.length : Nat) : Int) := by
    simp [IntKind.wrap, IntKind.bits, IntKind.signed]
    omega
  have i0 : (0 : Int) ≤ ((vs'.length : Nat) : Int) := by omega
  have i1 : ((vs'.length : Nat) : Int) < ((vs'.length : Nat) : Int) + 1 := by omega
  have i2 : ((vs'.length : Nat) : Int) < ((vs'.length + 1 : Nat) : Int) := by omega
  have HK := Lib.hid hcx
  have HV := Lib.hid hvl
  clear hroot2 hcx hvl hcv3 hcv2 m3 m2 m1 hrw hown1 hg1 hat1 hcl h hr hcv hcell3 hgb3 hown hcs hjs hj c2
  go_wp2
  refine wp_still_tail 15 mixed (by kernel_rfl) ?_
  simp only [List.take_succ_cons, List.take_zero, List.drop_succ_cons, List.drop_zero]
  repeat still_step
  refine wpStill_nil ?_
  go_wp2
  go_end0
  exact ⟨rfl, _, key.mv (Mv.aDraw (fun _ => False) _ _) (fun _ _ h => h), mm.trans (Mv.aDraw (fun _ => False) _ _) (fun _ h => h.elim)⟩
end
end Go.Cf
