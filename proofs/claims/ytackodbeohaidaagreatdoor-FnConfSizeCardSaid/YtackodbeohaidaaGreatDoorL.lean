/-
  The lexer runs: state after state, until an item lies in its channel.
-/
import Derived.Test.YtackodbeohaidaaGreatDoorJ
import Derived.Laws.Rows
namespace Go.Cf
open Go.RowKit Go.Conc Go.Proofs
/-- Function f has a body of Go's. -/
def Enters (f : Nat) : Prop := ∀ (args : Array Value) (w : World), (callFunc f args).run Tryz.prog w = .ok (.enter f args) w
/-- One state's work. -/
inductive Lstep : LX → LX → Prop
  | plain {L L' : LX} {f : Nat} {t : Tag} (hs : L.state = some (false, f)) (he : Enters f) (h : Goes1 f L L' t) : Lstep L (L'.goes t)
  | skip {L : LX} {f : Nat} (hs : L.state = some (true, f)) : Lstep L (L.ign.goes (some (false, f)))
inductive Run : Nat → LX → LX → Prop
  | refl (L : LX) : Run 0 L L
  | step {n : Nat} {L L1 L' : LX} (hq : L.q = []) (h : Lstep L L1) (k : Run n L1 L') : Run (n + 1) L L'
theorem Run.trans {n m : Nat} {L L1 L' : LX} (h : Run n L L1) (k : Run m L1 L') : Run (n + m) L L' := by
  induction h with
  | refl => simpa using k
  | step hq h _ ih => rw [Nat.add_right_comm]; exact .step hq h (ih k)
section
variable {P : Program} {Q : Exit → Act → World → Prop} {a : Act} {w : World}
theorem list_rest {l : List Oper} {o : Oper} : wpOps P (o :: l).toArray Q (List.range' 1 l.length) = wpList P (o :: l).toArray Q l :=
  wpOps_eq_wpList l 1 (fun j => by simp [Nat.add_comm 1 j])
theorem range_head (n : Nat) : List.range (n + 1) = 0 :: List.range' 1 n := by rw [List.range_eq_range', List.range'_succ]
theorem wpN_select_default {id : Nat} {l : List Oper} {o : Oper} {c cap s r : Nat} {tm : Bool} {z : Value} (hg : o.guard = none)
    (hr : (execOp a.eval o).run P w = .ok (.comm #[rcase c z] false .select) w) (hc : w.heap[c]? = some (.chan cap #[] false s r tm))
    (h : wpList P (o :: l).toArray Q l (a.put o.dst (.tuple #[goInt (-1), .bool false, z])) w) : wpN P (.region id (o :: l).toArray false) Q a w := by
  refine Lst.region ?_
  rw [List.size_toArray, List.length_cons, range_head]
  refine Lst.select_default (o := o) rfl hg hr hc (Lst.plain ?_)
  rw [list_rest]; exact h
theorem wpN_select_got {id : Nat} {l : List Oper} {o : Oper} {c cap s r : Nat} {buf : Array Value} {tm cl : Bool} {z : Value} (hg : o.guard = none)
    (hr : (execOp a.eval o).run P w = .ok (.comm #[rcase c z] false .select) w) (hc : w.heap[c]? = some (.chan cap buf cl s r tm)) (hsome : 0 < buf.size)
    (h : wpList P (o :: l).toArray Q l (a.put o.dst (.tuple #[goInt 0, .bool true, buf.getD 0 undef])) (w.setChan c cap (buf.extract 1 buf.size) cl s (r + 1) tm)) : wpN P (.region id (o :: l).toArray false) Q a w := by
  refine Lst.region ?_
  rw [List.size_toArray, List.length_cons, range_head]
  refine Lst.select_got (o := o) rfl hg hr hc hsome (Lst.plain ?_)
  rw [list_rest]; exact h
end
section
variable {base : Nat} {S0 : Nat → Prop} {w0 w : World} {b : Nat} {L : LX}
theorem RepV.bound {S : Nat → Prop} {v : Value} {t : Tag} (h : RepV S w v t) : RepV (fun k => S k ∧ k < w.heap.size) w v t := by
  match t, h with
  | none, h => exact h
  | some (false, n), h => exact h
  | some (true, n), ⟨g, hv, hg, hs⟩ => exact ⟨g, hv, hg, hs, lt_of_block hg⟩
theorem At.rebase (h : At base S0 w0 w b L) : ∃ S : Nat → Prop, At base S w w b L ∧ (∀ k, S k → k < w.heap.size) ∧ (∀ k, S k → S0 k ∨ w0.heap.size ≤ k) ∧ ∀ w' L', At base S w w' b L' → At base S0 w0 w' b L' := by
  obtain ⟨S, tv, sv, pv, h1, h2, h3⟩ := h
  have hS : ∀ k, (S k ∧ k < w.heap.size) → S0 k ∨ w0.heap.size ≤ k := fun k hk => (h3 k hk.1).elim .inl fun h => .inr h.1
  refine ⟨fun k => S k ∧ k < w.heap.size, ⟨fun k => S k ∧ k < w.heap.size, tv, sv, pv, ?_, Fr.refl _ _, fun k hk => .inl hk⟩, fun k hk => hk.2, hS, ?_⟩
  · exact {
      blk := h1.blk
      chan := h1.chan
      stack := h1.stack
      parts := h1.parts
      st := h1.st.bound
      hb := ⟨h1.hb, lt_of_block h1.blk⟩
      hch := ⟨h1.hch, lt_of_block h1.chan⟩
      hsv := fun k hk => ⟨h1.hsv k hk, own_lt h1.stack k hk⟩
      hpv := fun k hk => ⟨h1.hpv k hk, own_lt h1.parts k hk⟩
      base := h1.base
      stv := h1.stv }
  · rintro w' L' ⟨S', tv', sv', pv', k1, k2, k3⟩
    refine ⟨S', tv', sv', pv', k1, h2.trans k2 hS, ?_⟩
    intro k hk
    rcases k3 k hk with h | h
    · rcases hS k h with h' | h'
      · exact .inl h'
      · exact .inr ⟨h', by have := k2.size; have := h.2; omega⟩
    · exact .inr ⟨by have := h2.size; omega, h.2⟩
theorem At.kept (h : At base S0 w0 w b L) {g : Nat} {o : Obj} (hg : w0.heap[g]? = some o) (hn : ¬ S0 g) : w.heap[g]? = some o := by
  obtain ⟨S, tv, sv, pv, h1, h2, h3⟩ := h
  exact h2.blk hg hn
theorem At.size (h : At base S0 w0 w b L) : w0.heap.size ≤ w.heap.size := by
  obtain ⟨S, tv, sv, pv, h1, h2, h3⟩ := h
  exact h2.size
theorem At.c5p (h : At base S0 w0 w b L) {f : Nat} (hs : L.state = some (false, f)) : w.cell? ⟨b, 5, none⟩ = some (fnV f) := by
  obtain ⟨S, tv, sv, pv, h1, h2, h3⟩ := h
  have := h1.st
  rw [hs] at this
  have h5 := h1.c5
  rw [show tv = fnV f from this] at h5
  exact h5
theorem At.c5s (h : At base S0 w0 w b L) {f : Nat} (hs : L.state = some (true, f)) : ∃ g, w.cell? ⟨b, 5, none⟩ = some (clo g) ∧ w.heap[g]? = some (.cells #[fnV f] 107 (0, 0)) := by
  obtain ⟨S, tv, sv, pv, h1, h2, h3⟩ := h
  have := h1.st
  rw [hs] at this
  obtain ⟨g, hv, hg, _⟩ := this
  have h5 := h1.c5
  rw [show tv = clo g from hv] at h5
  exact ⟨g, h5, hg⟩
end
def LX.took (L : LX) (q : List It) : LX := { L with q := q, cr := L.cr + 1 }
/-- A loop, round by round. -/
def wpL (P : Program) (c : Code) (Q : Exit → Act → World → Prop) (a : Act) (w : World) : Prop :=
  ∀ (b : Frame) (k : List Item) (cs : List Frame), b.kind = .normal → ∃ e a' w', Q e a' w' ∧ Arrives P (lone (b.at a (.code c :: .inLoop c :: k)) cs w) b k cs e a' w'
section
variable {P : Program} {Q : Exit → Act → World → Prop} {a : Act} {w : World}
theorem wpL.loop {c : Code} (h : wpL P c Q a w) : wpN P (.loop c) Q a w := by
  intro b k cs hb
  obtain ⟨e, a', w', hq, harr⟩ := h b k cs hb
  exact ⟨e, a', w', hq, .of_steps (.one step_loop) harr⟩
theorem wpL_round {c : Code} (h : wpN P c (Exit.then (wpL P c Q) Q) a w) : wpL P c Q a w := by
  intro b k cs hb
  obtain ⟨e, a₁, w₁, hq, harr⟩ := h b (.inLoop c :: k) cs hb
  cases e with
  | normal =>
    obtain ⟨e₂, a₂, w₂, hq₂, harr₂⟩ := hq b k cs hb
    exact ⟨e₂, a₂, w₂, hq₂, .of_steps (Steps.trans harr (.one step_inLoop)) harr₂⟩
  | exit id => exact ⟨_, a₁, w₁, hq, .pass (x := .inLoop c) rfl (fun _ _ => .inl (by simp)) harr⟩
  | goto l => exact ⟨_, a₁, w₁, hq, .pass (x := .inLoop c) rfl (fun _ _ => .inl (by simp)) harr⟩
  | ret => exact ⟨_, a₁, w₁, hq, .pass (x := .inLoop c) rfl (fun _ _ => .inl (by simp)) harr⟩
  | panic ch => exact ⟨_, a₁, w₁, hq, .pass (x := .inLoop c) rfl (fun _ _ => .inl (by simp)) harr⟩
  | outgrown => exact ⟨_, a₁, w₁, hq, .pass (x := .inLoop c) rfl (fun _ _ => .inl (by simp)) harr⟩
theorem wpN_seq_select_default {id : Nat} {l : List Oper} {o : Oper} {c cap s r : Nat} {tm : Bool} {z : Value} {y : Code} (a' : Act) (hg : o.guard = none)
    (hr : (execOp a.eval o).run P w = .ok (.comm #[rcase c z] false .select) w) (hc : w.heap[c]? = some (.chan cap #[] false s r tm)) (ha : a.put o.dst (.tuple #[goInt (-1), .bool false, z]) = a')
    (h : ∀ K : Act → World → Prop, (∀ a w, wpN P y Q a w → K a w) → wpList P (o :: l).toArray (Exit.then K Q) l a' w) : wpN P (.seq (.region id (o :: l).toArray false) y) Q a w :=
  wpN_seq (wpN_select_default hg hr hc (by rw [ha]; exact h _ fun _ _ h => h))
theorem wpN_seq_select_got {id : Nat} {l : List Oper} {o : Oper} {c cap s r : Nat} {buf : Array Value} {tm cl : Bool} {z : Value} {y : Code} (a' : Act) (w' : World) (hg : o.guard = none)
    (hr : (execOp a.eval o).run P w = .ok (.comm #[rcase c z] false .select) w) (hc : w.heap[c]? = some (.chan cap buf cl s r tm)) (hsome : 0 < buf.size) (ha : a.put o.dst (.tuple #[goInt 0, .bool true, buf.getD 0 undef]) = a') (hw : w.setChan c cap (buf.extract 1 buf.size) cl s (r + 1) tm = w')
    (h : ∀ K : Act → World → Prop, (∀ a w, wpN P y Q a w → K a w) → wpList P (o :: l).toArray (Exit.then K Q) l a' w') : wpN P (.seq (.region id (o :: l).toArray false) y) Q a w :=
  wpN_seq (wpN_select_got hg hr hc hsome (by rw [ha, hw]; exact h _ fun _ _ h => h))
theorem wpN_mono {c : Code} {Q' : Exit → Act → World → Prop} (h : wpN P c Q a w) (hQ : ∀ e a w, Q e a w → Q' e a w) : wpN P c Q' a w :=
  fun b k cs hb => let ⟨e, a', w', q, r⟩ := h b k cs hb; ⟨e, a', w', hQ _ _ _ q, r⟩
theorem wpL_ind {c : Code} {I : LX → Act → World → Prop} {n : Nat} {L L' : LX} (R : Run n L L') (hI : I L a w) (hend : ∀ a w, I L' a w → wpN P c (Exit.then (fun _ _ => False) Q) a w)
    (hstep : ∀ L L1, L.q = [] → Lstep L L1 → ∀ a w, I L a w → wpN P c (Exit.then (I L1) Q) a w) : wpL P c Q a w := by
  induction R generalizing a w with
  | refl L => exact wpL_round (wpN_mono (hend _ _ hI) (fun e a w q => by cases e <;> first | exact q | exact q.elim))
  | step hq hs k ih => exact wpL_round (wpN_mono (hstep _ _ hq hs _ _ hI) (fun e a w q => by cases e <;> first | exact q | exact ih q hend))
end
section
variable {base : Nat} {S0 : Nat → Prop} {w0 w : World} {b : Nat} {L L' : LX}
def Zero98 : Obj := .cells #[i64 0, .string { data := #[] }, i64 0, i64 0] 98
theorem LexAt.agree {T : Nat → Prop} {tv sv pv : Value} {w1 : World} (h : LexAt base T w b L tv sv pv) (hw : ∀ k, T k → w1.heap[k]? = w.heap[k]?) : LexAt base T w1 b L tv sv pv where
  blk := (hw b h.hb).trans h.blk
  chan := (hw L.ch h.hch).trans h.chan
  stack := by
    obtain ⟨hx, h0 | ⟨g, cap, cur, hv, hbg, hblk, hrest⟩⟩ := h.stack
    · exact ⟨hx, .inl h0⟩
    · exact ⟨hx, .inr ⟨g, cap, cur, hv, hbg, (hw g (h.hsv g (by rw [hv]; rfl))).trans hblk, hrest⟩⟩
  parts := by
    obtain ⟨hx, h0 | ⟨g, cap, cur, hv, hbg, hblk, hrest⟩⟩ := h.parts
    · exact ⟨hx, .inl h0⟩
    · exact ⟨hx, .inr ⟨g, cap, cur, hv, hbg, (hw g (h.hpv g (by rw [hv]; rfl))).trans hblk, hrest⟩⟩
  st := by
    match ht : L.state, h.st with
    | none, h => exact h
    | some (false, n), h => exact h
    | some (true, n), ⟨g, hv, hg, hs⟩ => exact ⟨g, hv, (hw g hs).trans hg, hs⟩
  hb := h.hb
  hch := h.hch
  hsv := h.hsv
  hpv := h.hpv
  base := h.base
  stv := h.stv
theorem At.laid (h : At base S0 w0 w b L) (o : Obj) : ∃ S : Nat → Prop, At base S (w.alloc o) (w.alloc o) b L ∧ ¬ S w.heap.size ∧ ∀ w' w'' L', At base S (w.alloc o) w' b L' → Fr (fun k => k = w.heap.size) w' w'' → At base S0 w0 w'' b L' := by
  obtain ⟨S, tv, sv, pv, h1, h2, h3⟩ := h
  obtain ⟨S', hA, hlt, hS, hback⟩ := At.rebase ⟨S, tv, sv, pv, h1, h2, h3⟩
  obtain ⟨T, tv, sv, pv, k1, k2, k3⟩ := hA
  have hbl : Below w.heap.size w (w.alloc o) := (Below.refl _ _).alloc (Nat.le_refl _) _
  have hT : ∀ k, T k → S' k := fun k hk => (k3 k hk).elim id fun h => by have := h.1; have := h.2; omega
  refine ⟨S', ⟨T, tv, sv, pv, k1.below hbl, Fr.refl _ _, fun k hk => .inl (hT k hk)⟩, fun h => by have := hlt _ h; omega, ?_⟩
  rintro w' w'' L' ⟨U, tv', sv', pv', m1, m2, m3⟩ hfr
  refine hback w'' L' ⟨fun k => U k ∧ k < w'.heap.size, tv', sv', pv', ?_, ?_, ?_⟩
  · refine LexAt.agree (w := w') ?_ ?_
    · exact {
        blk := m1.blk
        chan := m1.chan
        stack := m1.stack
        parts := m1.parts
        st := m1.st.bound
        hb := ⟨m1.hb, lt_of_block m1.blk⟩
        hch := ⟨m1.hch, lt_of_block m1.chan⟩
        hsv := fun k hk => ⟨m1.hsv k hk, own_lt m1.stack k hk⟩
        hpv := fun k hk => ⟨m1.hpv k hk, own_lt m1.parts k hk⟩
        base := m1.base
        stv := m1.stv }
    · rintro k ⟨hk, hk2⟩
      refine hfr.block k hk2 ?_
      rintro rfl
      rcases m3 _ hk with h | h
      · have := hlt _ h; omega
      · have := h.1; rw [World.size_alloc] at this; omega
  · refine ((Fr.below hbl S').trans m2 (fun _ h => .inl h)).trans hfr ?_
    rintro k rfl
    exact .inr (Nat.le_refl _)
  · rintro k ⟨hk, hk2⟩
    rcases m3 k hk with h | h
    · exact .inl h
    · exact .inr ⟨by have := h.1; rw [World.size_alloc] at this; omega, by have := hfr.size; omega⟩
/-- nextItem's loop: between two rounds. -/
def NI (base : Nat) (S : Nat → Prop) (W : World) (b r : Nat) (L : LX) (a : Act) (w : World) : Prop :=
  (∃ t1 t3 t4 t5 t6 t7 t8 t9 t10 t11 t12 t13 t14 t15 t16 t17 t18 t19 t20 t21 : Value, a = { tmps := #[.pointer (some ⟨b, 0, none⟩), t1, .pointer (some ⟨r, 0, none⟩), t3, t4, t5, t6, t7, t8, t9, t10, t11, t12, t13, t14, t15, t16, t17, t18, t19, t20, t21], defers := [] }) ∧ At base S W w b L
theorem At.c5x (h : At base S0 w0 w b L) : ∃ u, w.cell? ⟨b, 5, none⟩ = some u := by obtain ⟨S, tv, sv, pv, h1, _⟩ := h; exact ⟨_, h1.c5⟩
theorem AtV.form {v : Value} {t : Tag} (h : AtV base S0 w0 w b L v t) : v = .nilFunc ∨ (∃ n, v = fnV n) ∨ ∃ g, v = clo g := by
  obtain ⟨S, tv, sv, pv, h1, h2, h3, h4, _⟩ := h
  match t, h4 with
  | none, h => exact .inl h
  | some (false, n), h => exact .inr (.inl ⟨n, h⟩)
  | some (true, n), ⟨g, hv, _⟩ => exact .inr (.inr ⟨g, hv⟩)
theorem results_cell {P : Program} {fn : Func} {t : Tmp} {ty e : TypeId} {tmps : Array Value} {W : World} {g : Nat} {cs : Array Value} {fr : Nat × Nat} {d : TypeDesc} (h : fn.results = #[.cell t ty]) (hp : tmps.getD t undef = .pointer (some ⟨g, 0, none⟩)) (hg : W.heap[g]? = some (.cells cs e fr))
    (hu : P.underlying ty = some d) (hd : (match d with | .struct _ | .array _ _ => true | _ => false) = true) (hi : (P.info? ty).map (·.size) = some cs.size) : (results fn tmps).run P W = .ok (.agg cs) W := by
  have := run_loadVar_row W g e ty cs fr d hg hu hd hi
  rw [Array.getD_eq_getD_getElem?] at hp
  simp [results, h, hp, asAddr, this]
theorem run_store_fn {P : Program} {W : World} {A : Addr} {f : Fn} {xs ys : Array Value} {m : Mode} : (store A (.func f xs ys) m).run P W = stored P W A (.func f xs ys) m := run_store P W A _ m rfl
theorem run_store_nofn {P : Program} {W : World} {A : Addr} {m : Mode} : (store A .nilFunc m).run P W = stored P W A .nilFunc m := run_store P W A _ m rfl
attribute [local go_sem] run_store_fn run_store_nofn
theorem info98 : (Tryz.prog.info? 98).map (·.size) = some 4 := by kernel_rfl
set_option maxRecDepth 100000 in
set_option maxHeartbeats 1000000 in
theorem nextItem_c {n : Nat} {x : It} {q : List It} (R : Run n L L') (hx : L'.q = x :: q) (h : At base S0 w0 w b L) :
    Calls Tryz.prog 61 #[.pointer (some ⟨b, 0, none⟩)] w fun e w' => e = .returned x.v ∧ At base S0 w0 w' b (L'.took q) := by
  obtain ⟨S, hA, hnS, hback⟩ := h.laid Zero98
  have hr0 : (w.alloc Zero98).heap[w.heap.size]? = some Zero98 := heap_alloc_new w _
  refine calls_of_wpN Tryz.func61 rfl ?_
  simp only [Tryz.ntmps61, List.size_toArray, List.length_cons, List.length_nil, Nat.reduceAdd, Nat.reduceSub, Array.replicate_succ, Array.replicate_zero, List.push_toArray, List.append_toArray, List.nil_append, List.cons_append]
  refine wpN_seq_k (fun K hK => ?_)
  go_wp2
  refine wpN_block (wpL.loop ?_)
  refine wpL_ind (I := NI base S (w.alloc Zero98) b w.heap.size) R ⟨⟨_, _, _, _, _, _, _, _, _, _, _, _, _, _, _, _, _, _, _, _, rfl⟩, hA⟩ ?_ ?_
  · rintro a w1 ⟨⟨t1, t3, t4, t5, t6, t7, t8, t9, t10, t11, t12, t13, t14, t15, t16, t17, t18, t19, t20, t21, rfl⟩, hA⟩
    have c6 := hA.c6
    have c11 := hA.kept hr0 hnS
    have hch := hA.heapCh
    rw [hx] at hch
    have hB := hA.chan q L'.cs (L'.cr + 1)
    refine wpN_block (wpN_seq_k fun K hK => ?_)
    go_wp2
    obtain ⟨xt, xv, xl, xp⟩ := x
    obtain ⟨W2, hW2⟩ : ∃ W2, W2 = w1.setChan L'.ch 10 (q.map It.v).toArray false L'.cs (L'.cr + 1) false := ⟨_, rfl⟩
    refine wpN_seq_select_got (c := L'.ch) (cap := 10) (buf := ((It.mk xt xv xl xp :: q).map It.v).toArray) (s := L'.cs) (r := L'.cr) (tm := false) (cl := false) (z := .agg #[i64 0, .string { data := #[] }, i64 0, i64 0]) { tmps := #[.pointer (some ⟨b, 0, none⟩), t1, .pointer (some ⟨w.heap.size, 0, none⟩), t3, .pointer (some ⟨b, 0, none⟩), .pointer (some ⟨b, 0, none⟩), .pointer (some ⟨b, 6, none⟩), .chan (some L'.ch), .tuple #[.int .i64 0, .bool true, .agg #[i64 xt, .string xv, i64 xl, i64 xp]], t9, t10, t11, t12, t13, t14, t15, t16, t17, t18, t19, t20, t21], defers := [] } W2 rfl (by kernel_rfl) hch (by simp) rfl (by rw [show ((It.mk xt xv xl xp :: q).map It.v).toArray.extract 1 ((It.mk xt xv xl xp :: q).map It.v).toArray.size = (q.map It.v).toArray from (by simp only [List.map_cons, List.size_toArray, List.length_cons]; simp [List.take_of_length_le]), hW2]) (fun K hK => ?_)
    rw [← hW2] at hB
    have c11 := hB.kept hr0 hnS
    have hr2 := lt_of_block c11
    have hp : Fr (fun k => k = w.heap.size) W2 (W2.alloc (Obj.cells #[Value.int IntKind.i64 xt, Value.string xv, Value.int IntKind.i64 xl, Value.int IntKind.i64 xp] 98)) := (Fr.refl _ _).alloc _
    have c12 : (W2.alloc (Obj.cells #[Value.int IntKind.i64 xt, Value.string xv, Value.int IntKind.i64 xl, Value.int IntKind.i64 xp] 98)).heap[w.heap.size]? = some (.cells #[i64 0, .string { data := #[] }, i64 0, i64 0] 98 (0, 0)) := (((Below.refl _ W2).alloc (Nat.le_refl _) _).block _ hr2).trans c11
    have d0 : W2.cell? ⟨w.heap.size, 0, none⟩ = some (.int .i64 0) := blk_cell c11 0
    have d1 : W2.cell? ⟨w.heap.size, 1, none⟩ = some (.string { data := #[] }) := blk_cell c11 1
    have d2 : W2.cell? ⟨w.heap.size, 2, none⟩ = some (.int .i64 0) := blk_cell c11 2
    have d3 : W2.cell? ⟨w.heap.size, 3, none⟩ = some (.int .i64 0) := blk_cell c11 3
    have e0 : W2.frozen? ⟨w.heap.size, 0, none⟩ = false := blk_free c11 0
    have e1 : W2.frozen? ⟨w.heap.size, 1, none⟩ = false := blk_free c11 1
    have e2 : W2.frozen? ⟨w.heap.size, 2, none⟩ = false := blk_free c11 2
    have e3 : W2.frozen? ⟨w.heap.size, 3, none⟩ = false := blk_free c11 3
    have hne : w.heap.size ≠ W2.heap.size := by omega
    have HC := Lib.hid c11
    clear c6 c11 c12 hch hr0 hA hW2 hx
    go_wp2
    refine wpN_block (wpN_of_wp ?_)
    go_wp2
    have c13 := (((Below.refl _ _).alloc (Nat.le_refl _) (Obj.cells #[Value.int IntKind.i64 xt, Value.string xv, Value.int IntKind.i64 xl, Value.int IntKind.i64 xp] 98)).block _ (by simpa using hr2)).trans (blk_setCell (blk_setCell (blk_setCell (blk_setCell HC.out 0 (.int .i64 xt)) 1 (.string xv)) 2 (.int .i64 xl)) 3 (.int .i64 xp))
    refine bodyPost_ret (results_cell rfl rfl c13 Tryz.underlying98 rfl info98) rfl ?_
    refine ⟨rfl, hback W2 _ (L'.took q) hB ?_⟩
    exact (((((Fr.refl (fun k => k = w.heap.size) W2).setCell (.inl rfl) _).setCell (.inl rfl) _).setCell (.inl rfl) _).setCell (.inl rfl) _).alloc _
  · rintro L L1 hq hs a w1 ⟨⟨t1, t3, t4, t5, t6, t7, t8, t9, t10, t11, t12, t13, t14, t15, t16, t17, t18, t19, t20, t21, rfl⟩, hA⟩
    have c6 := hA.c6
    have hch := hA.heapCh
    rw [hq] at hch
    refine wpN_block (wpN_seq_k fun K hK => ?_)
    go_wp2
    refine wpN_seq_select_default (c := L.ch) (cap := 10) (s := L.cs) (r := L.cr) (tm := false) (z := .agg #[i64 0, .string { data := #[] }, i64 0, i64 0]) { tmps := #[.pointer (some ⟨b, 0, none⟩), t1, .pointer (some ⟨w.heap.size, 0, none⟩), t3, .pointer (some ⟨b, 0, none⟩), .pointer (some ⟨b, 0, none⟩), .pointer (some ⟨b, 6, none⟩), .chan (some L.ch), .tuple #[.int .i64 (-1), .bool false, .agg #[i64 0, .string { data := #[] }, i64 0, i64 0]], t9, t10, t11, t12, t13, t14, t15, t16, t17, t18, t19, t20, t21], defers := [] } rfl (by kernel_rfl) hch rfl (fun K hK => ?_)
    go_wp2
    refine wpN_block (wpN_of_wp ?_)
    cases hs with
    | plain hst he hg =>
      have c5 := hA.c5p hst
      have HR := Lib.hid hst
      have HX := Lib.hid hx
      have HQ := Lib.hid hq
      clear hst hx hq
      go_wp2_with fail
      rw [he, Oper.upon_enter]
      refine (hg _ _ _ _ _ hA).mono ?_
      rintro e w2 ⟨v, rfl, hv⟩
      have f5 := hv.at_.free 5
      obtain ⟨u, c5⟩ := hv.at_.c5x
      have hs := hv.store
      rcases hv.form with rfl | ⟨m, rfl⟩ | ⟨m, rfl⟩ <;>
      · clear hv he hg
        simp only [fnV] at hs ⊢
        go_wp2
        exact ⟨⟨_, _, _, _, _, _, _, _, _, _, _, _, _, _, _, _, _, _, _, _, rfl⟩, hs⟩
    | @skip f hst =>
      obtain ⟨g, c5, hg⟩ := hA.c5s hst
      have HR := Lib.hid hst
      have HX := Lib.hid hx
      have HQ := Lib.hid hq
      clear hst hx hq
      go_wp2_with fail
      refine (skip1_c hA _ _ hg).mono ?_
      rintro e w2 ⟨rfl, hv⟩
      have f5 := hv.free 5
      obtain ⟨u, c5⟩ := hv.c5x
      have hs := (hv.plain f).store
      clear hv
      simp only [fnV] at hs ⊢
      go_wp2
      exact ⟨⟨_, _, _, _, _, _, _, _, _, _, _, _, _, _, _, _, _, _, _, _, rfl⟩, hs⟩
end
end Go.Cf
