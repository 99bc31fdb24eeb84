/-
  The lexer hands an item on: emit.
-/
import Derived.Test.YtackodbeohaidaaGreatDoorH
namespace Go.Cf
open Go.RowKit Go.Conc Go.Proofs
theorem join_nil (A : Option Addr) (c : Nat) (w : World) : Calls Tryz.prog 132 #[.slice A 0 c, .string ByteArray.empty] w fun e w' => e = .returned (.string ByteArray.empty) ∧ w' = w := by
  go_enter Tryz.func132, Tryz.ntmps132
  go_wp2
  go_ret
  exact ⟨rfl, rfl⟩
/-- An item is handed on. -/
def LX.emit (L : LX) (t : Nat) (v : ByteArray) : LX :=
  { L with q := L.q ++ [⟨t, v, L.line, (L.pos : Int) - L.ilstart - v.size⟩], cs := L.cs + 1, start := L.pos, ilstart := L.lstart }
def LX.txt (L : LX) : ByteArray := L.inp.extract L.start L.pos
section
variable {base : Nat} {S0 : Nat → Prop} {w0 w : World} {b : Nat} {L : LX}
theorem RepV.chan {S : Nat → Prop} {v : Value} {t : Tag} {c : Nat} {buf : Array Value} {cap s r : Nat} {cl tm : Bool} (h : RepV S w v t) (hc : w.heap[c]? = some (.chan cap buf cl s r tm)) (cap' : Nat) (buf' : Array Value) (cl' : Bool) (s' r' : Nat) (tm' : Bool) : RepV S (w.setChan c cap' buf' cl' s' r' tm') v t := by
  match t, h with
  | none, h => exact h
  | some (false, n), h => exact h
  | some (true, n), ⟨g, hv, hg, hs⟩ =>
    refine ⟨g, hv, ?_, hs⟩
    simp only [World.setChan]
    rw [Array.getElem?_setIfInBounds_ne]
    · exact hg
    · intro e; rw [← e, hc] at hg; cases hg
theorem ownsRow_chan {e : TypeId} {size n : Nat} {v : Value} {xs : List Value} {c : Nat} {buf : Array Value} {cap s r : Nat} {cl tm : Bool} (h : w.ownsRow base e size v n xs) (hc : w.heap[c]? = some (.chan cap buf cl s r tm)) (cap' : Nat) (buf' : Array Value) (cl' : Bool) (s' r' : Nat) (tm' : Bool) : (w.setChan c cap' buf' cl' s' r' tm').ownsRow base e size v n xs := by
  obtain ⟨hx, h0 | ⟨g, cap, cur, hv, hbg, hblk, hrest⟩⟩ := h
  · exact ⟨hx, .inl h0⟩
  · refine ⟨hx, .inr ⟨g, cap, cur, hv, hbg, ?_, hrest⟩⟩
    simp only [World.setChan]
    rw [Array.getElem?_setIfInBounds_ne]
    · exact hblk
    · intro e; rw [← e, hc] at hblk; cases hblk
/-- The channel of items turns. -/
theorem At.chan (h : At base S0 w0 w b L) (q : List It) (cs cr : Nat) : At base S0 w0 (w.setChan L.ch 10 (q.map It.v).toArray false cs cr false) b { L with q := q, cs := cs, cr := cr } := by
  obtain ⟨S, tv, sv, pv, h1, h2, h3⟩ := h
  refine ⟨S, tv, sv, pv, ?_, h2.setChan ?_ _ _ _ _ _ _, ?_⟩
  · exact {
      blk := by simp only [World.setChan]; rw [Array.getElem?_setIfInBounds_ne h1.ne_chan]; exact h1.blk
      chan := heap_setChan _ _ _ _ _ _ _ _ (lt_of_block h1.chan)
      stack := ownsRow_chan h1.stack h1.chan _ _ _ _ _ _
      parts := ownsRow_chan h1.parts h1.chan _ _ _ _ _ _
      st := h1.st.chan h1.chan _ _ _ _ _ _
      hb := h1.hb
      hch := h1.hch
      hsv := h1.hsv
      hpv := h1.hpv
      base := h1.base
      stv := h1.stv }
  · rcases h3 L.ch h1.hch with h | h
    · exact .inl h
    · exact .inr h.1
  · intro k hk
    rcases h3 k hk with h | h
    · exact .inl h
    · exact .inr ⟨h.1, by rw [size_setChan]; exact h.2⟩
theorem At.heapCh (h : At base S0 w0 w b L) : w.heap[L.ch]? = some (.chan 10 (L.q.map It.v).toArray false L.cs L.cr false) := by obtain ⟨S, tv, sv, pv, h1, _⟩ := h; exact h1.chan
theorem At.pv (h : At base S0 w0 w b L) (hp : L.parts = []) : ∃ A c, w.cell? ⟨b, 8, none⟩ = some (.slice A 0 c) := by
  obtain ⟨S, tv, sv, pv, h1, _⟩ := h
  have hc := h1.c8
  obtain ⟨_, ⟨rfl, _⟩ | ⟨g, cap, cur, rfl, _⟩⟩ := h1.parts
  · exact ⟨none, 0, hc⟩
  · rw [hp] at hc; exact ⟨_, _, hc⟩
/-- The walk goes on at a world of which only what the lexer is there is known. -/
theorem via {P : Program} {c : Code} {Q : Exit → Act → World → Prop} {a : Act} {w' : World} {L' : LX} (h : At base S0 w0 w' b L') (k : ∀ W, At base S0 w0 W b L' → c.wp P Q a W) : c.wp P Q a w' := k _ h
theorem wpN_send {P : Program} {Q : Exit → Act → World → Prop} {id : Nat} {a : Act} {l : List Oper} (n : Nat) (hm : P.follows .mixedOrders = true) (hB : sendOk l n = true)
    (h : wpStill P (unsent l n).toArray w.drew (fun a' => Lst P l.toArray Q [n] a' w.drew) (unsent l n) a) : wpN P (.region id l.toArray true) Q a w := wpN_still_send n hm hB h
set_option maxRecDepth 100000 in
set_option maxHeartbeats 800000 in
theorem emit_c (t : Nat) (h : At base S0 w0 w b L) (ok : L.Ok) (hp : L.parts = []) (hs : L.start ≤ L.pos) (hq : L.q.length < 10) :
    Calls Tryz.prog 93 #[.pointer (some ⟨b, 0, none⟩), i64 t] w fun e w' => e = .returned (.tuple #[]) ∧ At base S0 w0 w' b (L.emit t L.txt) := by
  obtain ⟨A8, c8n, c8⟩ := h.pv hp
  have c0 := h.c0
  have c1 := h.c1
  have c2 := h.c2
  have c4 := h.c4
  have c6 := h.c6
  have c10 := h.c10
  have c11 := h.c11
  have f1 := h.free 1
  have f11 := h.free 11
  have hsm := ok.small
  have hpp := ok.pos
  have hil := ok.ilstart
  have hl0 := ok.line0
  have hl1 := ok.line1
  have hxs : (L.inp.extract L.start L.pos).size ≤ 1000000 := by simp; omega
  have HQ := Lib.hid hq
  have HP := Lib.hid hp
  clear hq hp
  refine calls_of_wpN Tryz.func93 rfl ?_
  simp only [Tryz.ntmps93, List.size_toArray, List.length_cons, List.length_nil, Nat.reduceAdd, Nat.reduceSub, Array.replicate_succ, Array.replicate_zero, List.push_toArray, List.append_toArray, List.nil_append, List.cons_append]
  refine wpN_seq_k (fun K hK => ?_)
  go_quiet ((go_at_call 132; exact Calls.quiet_of_same (join_nil _ _ _)))
  go_wp2
  refine wpN_seq_k (fun K hK => ?_)
  go_quiet (fail)
  go_wp2
  refine wpN_seq (wpN_send 12 mixed (by kernel_rfl) ?_)
  simp only [unsent, List.modify_succ_cons, List.modify_zero_cons]
  repeat still_step
  refine wpStill_nil ?_
  refine Lst.send (c := L.ch) (cap := 10) (buf := (L.q.map It.v).toArray) (s := L.cs) (r := L.cr) (tm := false) (z := .tuple #[]) (v := .agg #[i64 t, .string (L.inp.extract L.start L.pos), i64 L.line, i64 ((L.pos : Int) - L.ilstart - ((L.pos - L.start : Nat) : Int))]) rfl rfl rfl h.heapCh (by simpa using HQ.out) ?_
  refine Lst.nil ?_
  have hsz : (L.txt.size : Int) = ((L.pos - L.start : Nat) : Int) := by unfold LX.txt; simp; omega
  have hv : It.v ⟨t, L.txt, L.line, (L.pos : Int) - L.ilstart - L.txt.size⟩ = .agg #[i64 t, .string (L.inp.extract L.start L.pos), i64 L.line, i64 ((L.pos : Int) - L.ilstart - ((L.pos - L.start : Nat) : Int))] := by rw [hsz]; rfl
  have hC := h.chan (L.q ++ [⟨t, L.txt, L.line, (L.pos : Int) - L.ilstart - L.txt.size⟩]) (L.cs + 1) L.cr
  rw [List.map_append, List.map_singleton, hv, ← List.push_toArray] at hC
  simp only [Exit.then]
  refine wpN_of_wp (via (At.any hC rfl rfl rfl rfl) (fun W h2 => ?_))
  clear c0 c1 c2 c4 c6 c8 c10 c11 f1 f11 hC hv hsz hxs
  have c1 := h2.c1
  have c2 := h2.c2
  have c10 := h2.c10
  have c11 := h2.c11
  have f1 := h2.free 1
  have f11 := h2.free 11
  go_wp2
  go_end0
  exact ⟨rfl, At.any ((h2.set (L' := { L with q := L.q ++ [⟨t, L.txt, L.line, (L.pos : Int) - L.ilstart - L.txt.size⟩], cs := L.cs + 1, start := L.pos }) 1 (i64 L.pos) (fun _ _ _ => rfl) rfl rfl rfl rfl rfl rfl rfl).set (L' := L.emit t L.txt) 11 (i64 L.lstart) (fun _ _ _ => rfl) rfl rfl rfl rfl rfl rfl rfl) rfl rfl rfl rfl⟩
end
end Go.Cf
