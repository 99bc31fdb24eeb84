/-
  Texts joined: De G H I J K Shelf W.
-/
import Derived.Test.YtackodbeohaidaaGreatDoorRb1
import Derived.KernelRfl
import Derived.Laws.IdiomStrings
import Derived.Maps.AppendAt
import Derived.Deep.AppendLies
import Derived.Shelf.Strings.OnBuilder
import Derived.Shelf.Strings.TrimSpace
import Derived.Shelf.Sort.Plain
import Derived.Shelf.Strings.Prefix
import Derived.Shelf.Slices.In.SortNone
import Derived.Shelf.Slices.In.SortNone2
import Derived.Test.YtackodbeohaidaaGreatDoorProg
/-
  The digits of a number, and what makes them.
-/
namespace Go.Cf
open Go.RowKit Go.Conc Go.Proofs
/-- The digits of a number. -/
def decS (n : Nat) : List UInt8 := if n ≤ 9 then [UInt8.ofNat (48 + n)] else decS (n / 10) ++ [UInt8.ofNat (48 + n % 10)]
termination_by n
decreasing_by omega
theorem byte48 (k : Nat) (h : k ≤ 9) : (UInt8.ofNat (48 + k)).toNat = 48 + k := by rw [UInt8.toNat_ofNat']; omega
theorem decS_num (n : Nat) : numOf (decS n) = n := by
  induction n using Nat.strongRecOn with
  | _ n ih =>
    rw [decS]
    split
    · next h => simp [numOf]; omega
    · next h => rw [numOf_snoc, ih _ (by omega), byte48 _ (by omega)]; omega
theorem decS_dig (n : Nat) : ∀ c ∈ decS n, 48 ≤ c.toNat ∧ c.toNat ≤ 57 := by
  induction n using Nat.strongRecOn with
  | _ n ih =>
    rw [decS]
    split
    · next h => intro c hc; rw [List.mem_singleton.1 hc, byte48 n h]; omega
    · next h =>
      intro c hc
      rcases List.mem_append.1 hc with hc | hc
      · exact ih _ (by omega) c hc
      · rw [List.mem_singleton.1 hc, byte48 _ (by omega)]; omega
theorem decS_len (n k : Nat) (hn : n < 10 ^ (k + 1)) : 0 < (decS n).length ∧ (decS n).length ≤ k + 1 := by
  induction k generalizing n with
  | zero => rw [decS, if_pos (by simp at hn; omega)]; simp
  | succ k ih =>
    rw [decS]
    split
    · simp
    · have := ih (n / 10) (by rw [Nat.pow_succ] at hn; omega)
      simp; omega
/-- The digits of a number, as a string. -/
def decB (n : Nat) : ByteArray := ⟨(decS n).toArray⟩
theorem decB_num (n : Nat) : numOf (decB n).data.toList = n := decS_num n
theorem decB_size (n : Nat) (h : n ≤ 1000000) : 0 < (decB n).size ∧ (decB n).size ≤ 7 := by
  have := decS_len n 6 (by omega)
  simpa [decB, ByteArray.size] using this
theorem decB_dig (n : Nat) : isDigits (decB n) := by
  intro i hi
  have hl : i < (decS n).length := by simpa [decB, ByteArray.size] using hi
  have h := decS_dig n (decS n)[i] (List.getElem_mem hl)
  have e : byteAt (decB n) i = ((decS n)[i]).toNat := by
    show ((decS n).toArray.toList.getD i 0).toNat = _
    rw [List.getD_eq_getElem?_getD, List.getElem?_eq_getElem (by simpa using hl)]
    rfl
  rw [e]
  exact h
theorem conv_digit (W : World) (k : Nat) (hk : k ≤ 9) : (convert 27 9 (.slice (some ⟨W.heap.size, 0, none⟩) 1 1)).run Tryz.prog (W.alloc (.cells #[.int .u8 (48 + (k : Int))] 5)) = .ok (.string ⟨#[UInt8.ofNat (48 + k)]⟩) (W.alloc (.cells #[.int .u8 (48 + (k : Int))] 5)) := by
  refine run_convert_bytes_back _ 27 9 5 ⟨W.heap.size, 0, none⟩ 1 [UInt8.ofNat (48 + k)] Tryz.underlying27 Tryz.underlying5 Tryz.underlying9 (fun j hj => ?_)
  obtain rfl : j = 0 := by simpa using hj
  have := blk_cell (heap_alloc_new W (.cells #[.int .u8 (48 + (k : Int))] 5)) 0
  simp only [List.getElem_cons_zero, byte48 k hk]
  exact this
set_option maxRecDepth 100000 in
set_option maxHeartbeats 1000000 in
theorem Decimal_c (n : Nat) (hn : n ≤ 1000000) (w : World) : Calls Tryz.prog 18 #[.int .i64 n] w fun e w' => e = .returned (.string (decB n)) ∧ Below w.heap.size w w' := by
  go_enter Tryz.func18, Tryz.ntmps18
  go_wp2_with fail
  go_loopw [0, 3] (fun a s wr => ∃ (m : Nat) (t : ByteArray), m ≤ n ∧ a = .int .i64 m ∧ s = .string t ∧ decS n = decS m ++ t.data.toList ∧ Below w.heap.size w wr) (fun a _ _ => (RowKit.intOf a).toNat)
  case atStart => exact ⟨n, { data := #[] }, Nat.le_refl _, rfl, rfl, by simp, Below.refl _ _⟩
  case round =>
    obtain ⟨m, t, hm, rfl, rfl, hd, hb⟩ := hrel
    have hl := (decS_len n 6 (by omega)).2
    rw [hd, List.length_append, data_length] at hl
    have ht : ¬ 9223372036854775807 < 1 + t.size := by omega
    have HD := Lib.hid hd
    clear hd hl
    by_cases h9 : m ≤ 9
    · have e1 : decide ((9 : Int) < (m : Int)) = false := decide_eq_false (by omega)
      have hcv := conv_digit wr m h9
      obtain ⟨c, hc⟩ : ∃ c, c = UInt8.ofNat (48 + m) := ⟨_, rfl⟩
      rw [← hc] at hcv
      have HC := Lib.hid hc
      clear hc
      go_wp2
      go_ret
      refine ⟨?_, hb.alloc hb.size _⟩
      have h := HD.out
      have h2 : decS m = [c] := by rw [decS, if_pos h9, HC.out]
      unfold decB
      rw [h, h2]
      congr 2
    · have e1 : decide ((9 : Int) < (m : Int)) = true := decide_eq_true (by omega)
      have hcv := conv_digit wr (m % 10) (by omega)
      obtain ⟨c, hc⟩ : ∃ c, c = UInt8.ofNat (48 + m % 10) := ⟨_, rfl⟩
      rw [← hc] at hcv
      have HC := Lib.hid hc
      have e2 : Int.tmod (m : Int) 10 = ((m % 10 : Nat) : Int) := rfl
      have e3 : Int.tdiv (m : Int) 10 = ((m / 10 : Nat) : Int) := rfl
      have e4 : ((m % 10 : Nat) : Int) ≤ 9 := by omega
      have e5 : ((m / 10 : Nat) : Int) ≤ 1000000 := by omega
      have e6 : ((m % 10 : Nat) : Int) = (m : Int) % 10 := by omega
      rw [e6] at hcv e2 e4
      have e7 : ((m / 10 : Nat) : Int) = (m : Int) / 10 := by omega
      rw [e7] at e3 e5
      clear e6 e7
      clear hc
      go_wp2
      go_roundw
      case rel =>
        have h2 : decS m = decS (m / 10) ++ [c] := by rw [decS, if_neg h9, HC.out]
        refine ⟨m / 10, ⟨#[c]⟩ ++ t, by omega, by go_num, rfl, ?_, hb.alloc hb.size _⟩
        rw [HD.out, h2, List.append_assoc, ByteArray.data_append, Array.toList_append]
      case measure => simp [RowKit.intOf]; omega
end Go.Cf

/-
  The lexer's small functions: the closure of lexSkip, push, pop, emit.
-/
namespace Go.Cf
open Go.RowKit Go.Conc Go.Proofs
section
variable {base : Nat} {S0 : Nat → Prop} {w0 w : World} {b : Nat} {L : LX}
theorem At.blk (h : At base S0 w0 w b L) : ∃ cs : Array Value, w.heap[b]? = some (.cells cs 109 (0, 0)) := by obtain ⟨S, tv, sv, pv, h1, _⟩ := h; exact ⟨_, h1.blk⟩
theorem skip1_c (h : At base S0 w0 w b L) (n g : Nat) (hg : w.heap[g]? = some (.cells #[fnV n] 107 (0, 0))) :
    Calls Tryz.prog 125 #[.pointer (some ⟨b, 0, none⟩), .pointer (some ⟨g, 0, none⟩)] w fun e w' => e = .returned (fnV n) ∧ At base S0 w0 w' b L.ign := by
  have hgb : g ≠ b := by
    obtain ⟨cs, hb⟩ := h.blk
    intro e
    rw [e, hb] at hg
    injection hg with hg
    injection hg with _ h2 _
    cases h2
  have hbg : b ≠ g := fun e => hgb e.symm
  have cg := blk_cell hg 0
  simp at cg
  have c1 := h.c1
  have c2 := h.c2
  have c10 := h.c10
  have c11 := h.c11
  have f1 := h.free 1
  have f11 := h.free 11
  clear hg
  go_enter Tryz.func125, Tryz.ntmps125
  go_wp2
  go_end0
  go_wp2
  go_ret
  exact ⟨rfl, At.any ((h.set (L' := { L with start := L.pos }) 1 (i64 L.pos) (fun _ _ _ => rfl) rfl rfl rfl rfl rfl rfl rfl).set (L' := L.ign) 11 (i64 L.lstart) (fun _ _ _ => rfl) rfl rfl rfl rfl rfl rfl rfl) rfl rfl rfl rfl⟩
theorem grown_ne {S : Nat → Prop} {tv sv pv : Value} {w1 : World} (h : LexAt base S w b L tv sv pv) (hg : w.grownBy w1 sv.ownBlock) : w1.heap[b]? = w.heap[b]? :=
  hg.block b (lt_of_block h.blk) (fun e => own_ne_blk h.stack h.blk (by decide) e.symm)
/-- 'append(v, x)' of one element: what is left of it. -/
theorem app_one {P : Program} {ops : Array Oper} {rest : List Oper} {o : Oper} {a : Act} {Q : Exit → Act → World → Prop} {W : World} (base : Nat) (hgd : o.guard = none) (s x : Operand) (t e : TypeId) (z : Value) (size bytes : Nat)
    (ho : o.op = .call { callee := .builtin .append, args := #[s, x], argTypes := #[t, t] })
    (ht : P.underlying t = some (.slice e)) (hinfo : (P.info? e).map (fun i => (i.zero, i.size, i.bytes)) = some (some z, size, bytes)) (hz : z.cells.size = size) (hs0 : 0 < size) (hb0 : 0 < bytes)
    (v : Value) (n : Nat) (xs ys : List Value) (hs : a.eval s = v) (hx : a.eval x = .slice (some ⟨W.heap.size, 0, none⟩) 1 1) (hys : ys.length = size) (h1 : ∀ u ∈ ys, u.oneCell' = true)
    (HO : W.ownsRow base e size v n xs) (hbase : base ≤ W.heap.size) (hl : (n + 1) * bytes ≤ 140737488355328)
    (h : ∀ v1 w1, w1.ownsRow base e size v1 (n + 1) (xs ++ ys) → W.grownBy w1 v.ownBlock → (v1.ownBlock = v.ownBlock ∨ ∃ b, v1.ownBlock = some b ∧ W.heap.size ≤ b) → wpList P ops Q rest (a.put o.dst v1) w1) :
    wpList P ops Q (o :: rest) a (W.alloc (.cells ys.toArray e)) := by
  obtain ⟨i0, hi, hzz⟩ := Option.map_eq_some_iff.1 hinfo
  simp only [Prod.mk.injEq] at hzz
  obtain ⟨hz0, hz1, hz2⟩ := hzz
  have hlen : n + 1 ≤ 140737488355328 := Nat.le_trans (Nat.le_mul_of_pos_right _ hb0) hl
  refine wpList_append_own_at (W.alloc (.cells ys.toArray e)) hgd s x t ho base e i0 z size bytes ht hi hz0 hz1 hz2 hz hs0 v n xs hs (HO.alloc _) ⟨W.heap.size, 0, none⟩ 1 1 ys hx (by rw [hys]; simp)
    (by simpa using World.news_of_block (cs := ys.toArray) (t := e) (fr := (0, 0)) (heap_alloc_new W (.cells ys.toArray e))) h1 (by simp only [maxLen]; omega) hl (by simp; omega) ?_
  intro v1 w1 hown hg _ hat
  refine h v1 w1 hown (World.grownBy.trans (World.grownBy_alloc W _ _) hg) ?_
  rcases hat with hat | hat
  · exact .inl hat
  · exact .inr ⟨_, hat, by simp⟩
theorem ownsRow_kept {w1 : World} {e : TypeId} {size n : Nat} {v : Value} {xs : List Value} {row : Option Nat} (h : w.ownsRow base e size v n xs) (hg : w.grownBy w1 row) (hne : ∀ k, v.ownBlock = some k → some k ≠ row) : w1.ownsRow base e size v n xs := by
  obtain ⟨hx, h0 | ⟨g, cap, cur, hv, hbg, hblk, hrest⟩⟩ := h
  · exact ⟨hx, .inl h0⟩
  · exact ⟨hx, .inr ⟨g, cap, cur, hv, hbg, (hg.block g (lt_of_block hblk) (hne g (by rw [hv]; rfl))).trans hblk, hrest⟩⟩
/-- The stack's row was appended to. -/
theorem LexAt.pushed {S : Nat → Prop} {tv sv pv sv' : Value} {w1 : World} {n : Nat} (h : LexAt base S w b L tv sv pv) (hg : w.grownBy w1 sv.ownBlock) (hown : w1.ownsRow base 107 1 sv' (L.stack.length + 1) (L.stack.map fnV ++ [fnV n]))
    (hat : sv'.ownBlock = sv.ownBlock ∨ ∃ k, sv'.ownBlock = some k ∧ w.heap.size ≤ k) :
    LexAt base (fun k => S k ∨ (w.heap.size ≤ k ∧ k < w1.heap.size)) (w1.setCell ⟨b, 7, none⟩ sv') b { L with stack := L.stack ++ [n] } tv sv' pv where
  blk := by
    have h1 : w1.heap[b]? = some (.cells (L.cells tv sv pv) 109 (0, 0)) := (grown_ne h hg).trans h.blk
    rw [blk_setCell h1]; rfl
  chan := by
    rw [Below.heap_setCell _ _ _ _ h.ne_chan]
    refine (hg.block L.ch (lt_of_block h.chan) ?_).trans h.chan
    intro e
    obtain ⟨_, ⟨h0, _⟩ | ⟨g, cap, cur, hv, _, hblk, _⟩⟩ := h.stack
    · rw [h0] at e; cases e
    · rw [hv] at e
      simp only [Value.ownBlock, Option.some.injEq] at e
      subst e
      rw [h.chan] at hblk
      cases hblk
  stack := by
    have h1 : w1.heap[b]? = some (.cells (L.cells tv sv pv) 109 (0, 0)) := (grown_ne h hg).trans h.blk
    have h2 := ownsRow_setCell_other hown (a := ⟨b, 7, none⟩) (own_ne_blk hown h1 (by decide)) sv'
    simpa using h2
  parts := by
    have hne : ∀ k, pv.ownBlock = some k → some k ≠ sv.ownBlock := by
      intro k hk e
      obtain ⟨_, ⟨h0, _⟩ | ⟨g, cap, cur, hv, _, hblk, _⟩⟩ := h.stack
      · rw [h0] at e; cases e
      · rw [hv] at e
        simp only [Value.ownBlock, Option.some.injEq] at e
        subst e
        exact own_ne_blk h.parts hblk (by decide) hk
    have hp1 := ownsRow_kept h.parts hg hne
    have h1 : w1.heap[b]? = some (.cells (L.cells tv sv pv) 109 (0, 0)) := (grown_ne h hg).trans h.blk
    exact ownsRow_setCell_other hp1 (a := ⟨b, 7, none⟩) (own_ne_blk hp1 h1 (by decide)) sv'
  st := by
    have h1 : w1.heap[b]? = some (.cells (L.cells tv sv pv) 109 (0, 0)) := (grown_ne h hg).trans h.blk
    refine RepV.far ?_ h1 7 sv'
    match ht : L.state, h.st with
    | none, h => exact h
    | some (false, n), h => exact h
    | some (true, m), ⟨g, hv, hgb, hs⟩ =>
      refine ⟨g, hv, (hg.block g (lt_of_block hgb) ?_).trans hgb, .inl hs⟩
      intro e
      exact h.stv g e m ht hv
  hb := .inl h.hb
  hch := .inl h.hch
  hsv := by
    intro k hk
    rcases hat with h1 | ⟨k', h1, h2⟩
    · exact .inl (h.hsv k (by rw [← h1]; exact hk))
    · rw [hk] at h1; cases h1
      refine .inr ⟨h2, ?_⟩
      obtain ⟨_, ⟨h0, _⟩ | ⟨g, cap, cur, hv, _, hblk, _⟩⟩ := hown
      · rw [h0] at hk; cases hk
      · rw [hv] at hk; simp only [Value.ownBlock, Option.some.injEq] at hk; subst hk; exact lt_of_block hblk
  hpv := fun k hk => .inl (h.hpv k hk)
  base := h.base
  stv := by
    intro g hg2 m hm
    rcases hat with h1 | ⟨k', h1, h2⟩
    · exact h.stv g (by rw [← h1]; exact hg2) m hm
    · intro e
      have hst := h.st
      rw [show L.state = some (true, m) from hm] at hst
      obtain ⟨g', hv', hgb, _⟩ := hst
      rw [e] at hv'
      rw [← hg2] at h1
      injection hv' with _ _ hv'
      simp at hv' h1
      have := lt_of_block hgb
      omega
theorem push_c (h : At base S0 w0 w b L) (n : Nat) (hst : L.stack.length ≤ 1000000) :
    Calls Tryz.prog 88 #[.pointer (some ⟨b, 0, none⟩), fnV n] w fun e w' => e = .returned (.tuple #[]) ∧ At base S0 w0 w' b { L with stack := L.stack ++ [n] } := by
  obtain ⟨S, tv, sv, pv, h1, h2, h3⟩ := h
  have c7 := h1.c7
  have f7 := h1.free 7
  have hbl := lt_of_block h1.blk
  have hown := h1.stack
  have hbase := h1.base
  have hbs := own_ne_blk h1.stack h1.blk (by decide)
  have hlen : (L.stack.length + 1) * 8 ≤ 140737488355328 := by omega
  go_enter Tryz.func88, Tryz.ntmps88
  go_wp2_with (at_builtin; refine app_one base rfl _ _ 106 107 .nilFunc 1 8 rfl Tryz.underlying106 info107 rfl (by decide) (by decide) sv L.stack.length (L.stack.map fnV) [fnV n] rfl rfl rfl (by simp [fnV]; rfl) hown (by omega) hlen ?_)
  intro sv' w1 hown1 hg1 hat1
  have hc7 : w1.cell? ⟨b, 7, none⟩ = some sv := blk_cell ((grown_ne h1 hg1).trans h1.blk) 7
  have hf7 : w1.frozen? ⟨b, 7, none⟩ = false := blk_free ((grown_ne h1 hg1).trans h1.blk) 7
  have K := h1.pushed hg1 hown1 hat1
  have KF : Fr S0 w0 (w1.setCell ⟨b, 7, none⟩ sv') := by
    refine (h2.grown hg1 ?_).setCell ?_ _
    · intro k hk
      rcases h3 k (h1.hsv k hk) with h | h
      · exact .inl h
      · exact .inr h.1
    · rcases h3 b h1.hb with h | h
      · exact .inl h
      · exact .inr h.1
  have KS : ∀ k, (S k ∨ (w.heap.size ≤ k ∧ k < w1.heap.size)) → S0 k ∨ (w0.heap.size ≤ k ∧ k < (w1.setCell ⟨b, 7, none⟩ sv').heap.size) := by
    intro k hk
    have := hg1.size
    have := h2.size
    rw [World.size_setCell]
    rcases hk with hk | hk
    · rcases h3 k hk with h | h
      · exact .inl h
      · exact .inr ⟨h.1, by omega⟩
    · exact .inr ⟨by omega, hk.2⟩
  have KK := At.grow K KF KS
  obtain ⟨X, hX⟩ : ∃ X, X = (At base S0 w0 (w1.setCell ⟨b, 7, none⟩ sv') b { L with stack := L.stack ++ [n] }) := ⟨_, rfl⟩
  rw [← hX] at KK
  have HX := Lib.hid hX
  obtain ⟨A7, C7, e7⟩ : ∃ A c, sv' = .slice A (L.stack.length + 1) c := by
    obtain ⟨_, ⟨h0, hz⟩ | ⟨g, cap, cur, hv, _⟩⟩ := hown1
    · exact absurd hz (by omega)
    · exact ⟨_, _, hv⟩
  clear hX hown1 hg1 hat1 K KF KS h1 h2 h3 hown c7 f7 hbs
  rw [e7] at HX
  subst e7
  go_wp2
  go_end0
  exact ⟨rfl, by rw [← HX.out]; exact KK⟩
end
end Go.Cf

/-
  The lexer's small functions: pop, emit.
-/
namespace Go.Cf
open Go.RowKit Go.Conc Go.Proofs
section
variable {base : Nat} {S0 : Nat → Prop} {w0 w : World} {b : Nat} {L : LX}
theorem own_open {e : TypeId} {n : Nat} {v : Value} {xs : List Value} (h : w.ownsRow base e 1 v n xs) (hn : 0 < n) :
    ∃ g cap, v = .slice (some ⟨g, 0, none⟩) n cap ∧ n ≤ cap ∧ cap ≤ maxLen ∧ (∀ j u, xs[j]? = some u → w.cell? ⟨g, j, none⟩ = some u) ∧ (∃ cur, w.heap[g]? = some (.cells cur e (0, 0))) := by
  obtain ⟨hx, ⟨_, h0⟩ | ⟨g, cap, cur, hv, _, hblk, h1, h2, h3, h4⟩⟩ := h
  · omega
  · refine ⟨g, cap, hv, h1, h2, ?_, cur, hblk⟩
    intro j u hj
    rw [blk_cell hblk, ← Array.getElem?_toList]
    rw [← h4, List.getElem?_take] at hj
    split at hj
    · exact hj
    · cases hj
theorem own_shorter {e : TypeId} {n m : Nat} {g cap : Nat} {xs ys : List Value} (h : w.ownsRow base e 1 (.slice (some ⟨g, 0, none⟩) n cap) n (xs ++ ys)) (hm : xs.length = m) (hmn : m ≤ n) : w.ownsRow base e 1 (.slice (some ⟨g, 0, none⟩) m cap) m xs := by
  obtain ⟨hx, ⟨h0, _⟩ | ⟨g', cap', cur, hv, hb, hblk, h1, h2, h3, h4⟩⟩ := h
  · cases h0
  · simp only [Value.slice.injEq, Option.some.injEq, Addr.mk.injEq] at hv
    obtain ⟨⟨rfl, _, _⟩, _, rfl⟩ := hv
    refine ⟨by omega, .inr ⟨g, cap, cur, rfl, hb, hblk, by omega, h2, h3, ?_⟩⟩
    have := congrArg (List.take (m * 1)) h4
    rw [List.take_take, Nat.min_eq_left (by omega)] at this
    rw [this, List.take_left' (by omega)]
theorem pop_c (st : List Nat) (n : Nat) (h : At base S0 w0 w b L) (hst : L.stack = st ++ [n]) (hlen : st.length ≤ 1000000) :
    Calls Tryz.prog 128 #[.pointer (some ⟨b, 0, none⟩)] w fun e w' => e = .returned (fnV n) ∧ At base S0 w0 w' b { L with stack := st } := by
  obtain ⟨S, tv, sv, pv, h1, h2, h3⟩ := h
  have c7 := h1.c7
  have f7 := h1.free 7
  have hown := h1.stack
  rw [hst, List.length_append, List.length_singleton, List.map_append] at hown
  obtain ⟨g, cap, rfl, hcap, hmx, hcell, cur, hgb⟩ := own_open hown (by omega)
  have hcl := hcell st.length (fnV n) (by simp)
  have hown2 := own_shorter (m := st.length) hown (by simp) (by omega)
  have hne : g ≠ b := by
    intro e
    rw [e, h1.blk] at hgb
    injection hgb with hgb
    injection hgb with _ h2 _
    cases h2
  have hpost : At base S0 w0 (w.setCell ⟨b, 7, none⟩ (.slice (some ⟨g, 0, none⟩) st.length cap)) b { L with stack := st } := by
    refine ⟨S, tv, .slice (some ⟨g, 0, none⟩) st.length cap, pv, ?_, h2.setCell ?_ _, ?_⟩
    · exact {
        blk := by rw [blk_setCell h1.blk]; rfl
        chan := by rw [Below.heap_setCell _ _ _ _ h1.ne_chan]; exact h1.chan
        stack := ownsRow_setCell_other hown2 (by simp only [Value.ownBlock, ne_eq, Option.some.injEq]; exact hne) _
        parts := ownsRow_setCell_other h1.parts (own_ne_blk h1.parts h1.blk (by decide)) _
        st := h1.st.far h1.blk 7 _
        hb := h1.hb
        hch := h1.hch
        hsv := h1.hsv
        hpv := h1.hpv
        base := h1.base
        stv := h1.stv }
    · rcases h3 b h1.hb with h | h
      · exact .inl h
      · exact .inr h.1
    · intro k hk
      rcases h3 k hk with h | h
      · exact .inl h
      · exact .inr ⟨h.1, by simpa using h.2⟩
  clear hcell hgb h1 h2 h3 hown hown2
  have hpos : ((st.length : Int) + 1 == 0) = false := by simp; omega
  have hc2 : st.length ≤ cap := by omega
  unfold maxLen at hmx
  go_enter Tryz.func128, Tryz.ntmps128
  go_wp2
  go_ret
  exact ⟨rfl, hpost⟩
end
end Go.Cf

/-
  The lexer hands an item on: emit.
-/
namespace Go.Cf
open Go.RowKit Go.Conc Go.Proofs
theorem join_nil (A : Option Addr) (c : Nat) (w : World) : Calls Tryz.prog 132 #[.slice A 0 c, .string ByteArray.empty] w fun e w' => e = .returned (.string ByteArray.empty) ∧ w' = w := by
  go_enter Tryz.func132, Tryz.ntmps132
  go_wp2
  go_ret
  exact ⟨rfl, rfl⟩
/-- An item is handed on. -/
def LX.emit (L : LX) (t : Nat) (v : ByteArray) : LX :=
  { L with q := L.q ++ [⟨t, v, L.line, (L.pos : Int) - L.ilstart - v.size⟩], cs := L.cs + 1, start := L.pos, ilstart := L.lstart }
def LX.txt (L : LX) : ByteArray := L.inp.extract L.start L.pos
section
variable {base : Nat} {S0 : Nat → Prop} {w0 w : World} {b : Nat} {L : LX}
theorem RepV.chan {S : Nat → Prop} {v : Value} {t : Tag} {c : Nat} {buf : Array Value} {cap s r : Nat} {cl tm : Bool} (h : RepV S w v t) (hc : w.heap[c]? = some (.chan cap buf cl s r tm)) (cap' : Nat) (buf' : Array Value) (cl' : Bool) (s' r' : Nat) (tm' : Bool) : RepV S (w.setChan c cap' buf' cl' s' r' tm') v t := by
  match t, h with
  | none, h => exact h
  | some (false, n), h => exact h
  | some (true, n), ⟨g, hv, hg, hs⟩ =>
    refine ⟨g, hv, ?_, hs⟩
    simp only [World.setChan]
    rw [Array.getElem?_setIfInBounds_ne]
    · exact hg
    · intro e; rw [← e, hc] at hg; cases hg
theorem ownsRow_chan {e : TypeId} {size n : Nat} {v : Value} {xs : List Value} {c : Nat} {buf : Array Value} {cap s r : Nat} {cl tm : Bool} (h : w.ownsRow base e size v n xs) (hc : w.heap[c]? = some (.chan cap buf cl s r tm)) (cap' : Nat) (buf' : Array Value) (cl' : Bool) (s' r' : Nat) (tm' : Bool) : (w.setChan c cap' buf' cl' s' r' tm').ownsRow base e size v n xs := by
  obtain ⟨hx, h0 | ⟨g, cap, cur, hv, hbg, hblk, hrest⟩⟩ := h
  · exact ⟨hx, .inl h0⟩
  · refine ⟨hx, .inr ⟨g, cap, cur, hv, hbg, ?_, hrest⟩⟩
    simp only [World.setChan]
    rw [Array.getElem?_setIfInBounds_ne]
    · exact hblk
    · intro e; rw [← e, hc] at hblk; cases hblk
/-- The channel of items turns. -/
theorem At.chan (h : At base S0 w0 w b L) (q : List It) (cs cr : Nat) : At base S0 w0 (w.setChan L.ch 10 (q.map It.v).toArray false cs cr false) b { L with q := q, cs := cs, cr := cr } := by
  obtain ⟨S, tv, sv, pv, h1, h2, h3⟩ := h
  refine ⟨S, tv, sv, pv, ?_, h2.setChan ?_ _ _ _ _ _ _, ?_⟩
  · exact {
      blk := by simp only [World.setChan]; rw [Array.getElem?_setIfInBounds_ne h1.ne_chan]; exact h1.blk
      chan := heap_setChan _ _ _ _ _ _ _ _ (lt_of_block h1.chan)
      stack := ownsRow_chan h1.stack h1.chan _ _ _ _ _ _
      parts := ownsRow_chan h1.parts h1.chan _ _ _ _ _ _
      st := h1.st.chan h1.chan _ _ _ _ _ _
      hb := h1.hb
      hch := h1.hch
      hsv := h1.hsv
      hpv := h1.hpv
      base := h1.base
      stv := h1.stv }
  · rcases h3 L.ch h1.hch with h | h
    · exact .inl h
    · exact .inr h.1
  · intro k hk
    rcases h3 k hk with h | h
    · exact .inl h
    · exact .inr ⟨h.1, by rw [size_setChan]; exact h.2⟩
theorem At.heapCh (h : At base S0 w0 w b L) : w.heap[L.ch]? = some (.chan 10 (L.q.map It.v).toArray false L.cs L.cr false) := by obtain ⟨S, tv, sv, pv, h1, _⟩ := h; exact h1.chan
theorem At.pv (h : At base S0 w0 w b L) (hp : L.parts = []) : ∃ A c, w.cell? ⟨b, 8, none⟩ = some (.slice A 0 c) := by
  obtain ⟨S, tv, sv, pv, h1, _⟩ := h
  have hc := h1.c8
  obtain ⟨_, ⟨rfl, _⟩ | ⟨g, cap, cur, rfl, _⟩⟩ := h1.parts
  · exact ⟨none, 0, hc⟩
  · rw [hp] at hc; exact ⟨_, _, hc⟩
/-- The walk goes on at a world of which only what the lexer is there is known. -/
theorem via {P : Program} {c : Code} {Q : Exit → Act → World → Prop} {a : Act} {w' : World} {L' : LX} (h : At base S0 w0 w' b L') (k : ∀ W, At base S0 w0 W b L' → c.wp P Q a W) : c.wp P Q a w' := k _ h
theorem wpN_send {P : Program} {Q : Exit → Act → World → Prop} {id : Nat} {a : Act} {l : List Oper} (n : Nat) (hm : P.follows .mixedOrders = true) (hB : sendOk l n = true)
    (h : wpStill P (unsent l n).toArray w.drew (fun a' => Lst P l.toArray Q [n] a' w.drew) (unsent l n) a) : wpN P (.region id l.toArray true) Q a w := wpN_still_send n hm hB h
set_option maxRecDepth 100000 in
set_option maxHeartbeats 800000 in
theorem emit_c (t : Nat) (h : At base S0 w0 w b L) (ok : L.Ok) (hp : L.parts = []) (hs : L.start ≤ L.pos) (hq : L.q.length < 10) :
    Calls Tryz.prog 93 #[.pointer (some ⟨b, 0, none⟩), i64 t] w fun e w' => e = .returned (.tuple #[]) ∧ At base S0 w0 w' b (L.emit t L.txt) := by
  obtain ⟨A8, c8n, c8⟩ := h.pv hp
  have c0 := h.c0
  have c1 := h.c1
  have c2 := h.c2
  have c4 := h.c4
  have c6 := h.c6
  have c10 := h.c10
  have c11 := h.c11
  have f1 := h.free 1
  have f11 := h.free 11
  have hsm := ok.small
  have hpp := ok.pos
  have hil := ok.ilstart
  have hl0 := ok.line0
  have hl1 := ok.line1
  have hxs : (L.inp.extract L.start L.pos).size ≤ 1000000 := by simp; omega
  have HQ := Lib.hid hq
  have HP := Lib.hid hp
  clear hq hp
  refine calls_of_wpN Tryz.func93 rfl ?_
  simp only [Tryz.ntmps93, List.size_toArray, List.length_cons, List.length_nil, Nat.reduceAdd, Nat.reduceSub, Array.replicate_succ, Array.replicate_zero, List.push_toArray, List.append_toArray, List.nil_append, List.cons_append]
  refine wpN_seq_k (fun K hK => ?_)
  go_quiet ((go_at_call 132; exact Calls.quiet_of_same (join_nil _ _ _)))
  go_wp2
  refine wpN_seq_k (fun K hK => ?_)
  go_quiet (fail)
  go_wp2
  refine wpN_seq (wpN_send 12 mixed (by kernel_rfl) ?_)
  simp only [unsent, List.modify_succ_cons, List.modify_zero_cons]
  repeat still_step
  refine wpStill_nil ?_
  refine Lst.send (c := L.ch) (cap := 10) (buf := (L.q.map It.v).toArray) (s := L.cs) (r := L.cr) (tm := false) (z := .tuple #[]) (v := .agg #[i64 t, .string (L.inp.extract L.start L.pos), i64 L.line, i64 ((L.pos : Int) - L.ilstart - ((L.pos - L.start : Nat) : Int))]) rfl rfl rfl h.heapCh (by simpa using HQ.out) ?_
  refine Lst.nil ?_
  have hsz : (L.txt.size : Int) = ((L.pos - L.start : Nat) : Int) := by unfold LX.txt; simp; omega
  have hv : It.v ⟨t, L.txt, L.line, (L.pos : Int) - L.ilstart - L.txt.size⟩ = .agg #[i64 t, .string (L.inp.extract L.start L.pos), i64 L.line, i64 ((L.pos : Int) - L.ilstart - ((L.pos - L.start : Nat) : Int))] := by rw [hsz]; rfl
  have hC := h.chan (L.q ++ [⟨t, L.txt, L.line, (L.pos : Int) - L.ilstart - L.txt.size⟩]) (L.cs + 1) L.cr
  rw [List.map_append, List.map_singleton, hv, ← List.push_toArray] at hC
  simp only [Exit.then]
  refine wpN_of_wp (via (At.any hC rfl rfl rfl rfl) (fun W h2 => ?_))
  clear c0 c1 c2 c4 c6 c8 c10 c11 f1 f11 hC hv hsz hxs
  have c1 := h2.c1
  have c2 := h2.c2
  have c10 := h2.c10
  have c11 := h2.c11
  have f1 := h2.free 1
  have f11 := h2.free 11
  go_wp2
  go_end0
  exact ⟨rfl, At.any ((h2.set (L' := { L with q := L.q ++ [⟨t, L.txt, L.line, (L.pos : Int) - L.ilstart - L.txt.size⟩], cs := L.cs + 1, start := L.pos }) 1 (i64 L.pos) (fun _ _ _ => rfl) rfl rfl rfl rfl rfl rfl rfl).set (L' := L.emit t L.txt) 11 (i64 L.lstart) (fun _ _ _ => rfl) rfl rfl rfl rfl rfl rfl rfl) rfl rfl rfl rfl⟩
end
end Go.Cf

/-
  A state function's contract: what it comes to, and the next state's value.
-/
namespace Go.Cf
open Go.RowKit Go.Conc Go.Proofs
abbrev clo (g : Nat) : Value := .func (.func 125) #[] #[.pointer (some ⟨g, 0, none⟩)]
/-- At, and v is the value of the state t. -/
def AtV (base : Nat) (S0 : Nat → Prop) (w0 w : World) (b : Nat) (L : LX) (v : Value) (t : Tag) : Prop :=
  ∃ S tv sv pv, LexAt base S w b L tv sv pv ∧ Fr S0 w0 w ∧ (∀ k, S k → S0 k ∨ (w0.heap.size ≤ k ∧ k < w.heap.size)) ∧ RepV S w v t ∧ ∀ g, some g = sv.ownBlock → v ≠ clo g
def LX.psh (L : LX) (n : Nat) : LX := { L with stack := L.stack ++ [n] }
def LX.stk (L : LX) (st : List Nat) : LX := { L with stack := st }
def LX.ssfn (L : LX) (n : Nat) : LX := { L with ssf := some n }
def LX.goes (L : LX) (t : Tag) : LX := { L with state := t }
section
variable {base : Nat} {S0 : Nat → Prop} {w0 w : World} {b : Nat} {L : LX}
theorem At.plain (h : At base S0 w0 w b L) (n : Nat) : AtV base S0 w0 w b L (fnV n) (some (false, n)) := by
  obtain ⟨S, tv, sv, pv, h1, h2, h3⟩ := h
  exact ⟨S, tv, sv, pv, h1, h2, h3, rfl, fun g _ e => by simp [fnV, clo] at e⟩
theorem At.nil (h : At base S0 w0 w b L) : AtV base S0 w0 w b L .nilFunc none := by
  obtain ⟨S, tv, sv, pv, h1, h2, h3⟩ := h
  exact ⟨S, tv, sv, pv, h1, h2, h3, rfl, fun g _ e => by simp [clo] at e⟩
theorem own_lt {base : Nat} {e : TypeId} {size n : Nat} {v : Value} {xs : List Value} (h : w.ownsRow base e size v n xs) (k : Nat) (hk : v.ownBlock = some k) : k < w.heap.size := by
  obtain ⟨_, ⟨h0, _⟩ | ⟨g, cap, cur, hv, _, hblk, _⟩⟩ := h
  · rw [h0] at hk; cases hk
  · rw [hv] at hk; simp only [Value.ownBlock, Option.some.injEq] at hk; subst hk; exact lt_of_block hblk
theorem LexAt.wide {S S' : Nat → Prop} {tv sv pv : Value} (h : LexAt base S w b L tv sv pv) (hS : ∀ k, S k → S' k) : LexAt base S' w b L tv sv pv where
  blk := h.blk
  chan := h.chan
  stack := h.stack
  parts := h.parts
  st := match L.state, h.st with
    | none, h => h
    | some (false, _), h => h
    | some (true, _), ⟨g, hv, hg, hs⟩ => ⟨g, hv, hg, hS _ hs⟩
  hb := hS _ h.hb
  hch := hS _ h.hch
  hsv := fun k hk => hS _ (h.hsv k hk)
  hpv := fun k hk => hS _ (h.hpv k hk)
  base := h.base
  stv := h.stv
theorem skipV_c (h : At base S0 w0 w b L) (n : Nat) :
    Calls Tryz.prog 87 #[.pointer (some ⟨b, 0, none⟩), fnV n] w fun e w' => e = .returned (clo w.heap.size) ∧ AtV base S0 w0 w' b L (clo w.heap.size) (some (true, n)) := by
  have hpost : AtV base S0 w0 (w.alloc (.cells #[fnV n] 107)) b L (clo w.heap.size) (some (true, n)) := by
    obtain ⟨S, tv, sv, pv, h1, h2, h3⟩ := h
    have hbl : Below w.heap.size w (w.alloc (.cells #[fnV n] 107)) := (Below.refl _ _).alloc (Nat.le_refl _) _
    refine ⟨fun k => S k ∨ k = w.heap.size, tv, sv, pv, (h1.below hbl).wide (fun _ h => .inl h), h2.alloc _, ?_, ⟨_, rfl, heap_alloc_new w _, .inr rfl⟩, ?_⟩
    · intro k hk
      have := h2.size
      rw [World.size_alloc]
      rcases hk with hk | rfl
      · rcases h3 k hk with h | h
        · exact .inl h
        · exact .inr ⟨h.1, by omega⟩
      · exact .inr ⟨this, by omega⟩
    · intro g hg e
      have := own_lt h1.stack g hg.symm
      simp only [clo, Value.func.injEq] at e
      simp at e
  go_enter Tryz.func87, Tryz.ntmps87
  go_wp2
  go_ret
  exact ⟨rfl, hpost⟩
theorem RepV.set {S : Nat → Prop} {tv sv pv v : Value} {t : Tag} (h : RepV S w v t) (h1 : LexAt base S w b L tv sv pv) (i : Nat) (u : Value) : RepV S (w.setCell ⟨b, i, none⟩ u) v t := h.far h1.blk i u
/-- The next state is stored. -/
theorem AtV.store {v : Value} {t : Tag} (h : AtV base S0 w0 w b L v t) : At base S0 w0 (w.setCell ⟨b, 5, none⟩ v) b (L.goes t) := by
  obtain ⟨S, tv, sv, pv, h1, h2, h3, h4, h5⟩ := h
  refine ⟨S, v, sv, pv, ?_, h2.setCell ?_ _, ?_⟩
  · exact {
      blk := by rw [blk_setCell h1.blk]; rfl
      chan := by rw [Below.heap_setCell _ _ _ _ h1.ne_chan]; exact h1.chan
      stack := ownsRow_setCell_other h1.stack (own_ne_blk h1.stack h1.blk (by decide)) _
      parts := ownsRow_setCell_other h1.parts (own_ne_blk h1.parts h1.blk (by decide)) _
      st := h4.set h1 5 _
      hb := h1.hb
      hch := h1.hch
      hsv := h1.hsv
      hpv := h1.hpv
      base := h1.base
      stv := fun g hg n hn => h5 g hg }
  · rcases h3 b h1.hb with h | h
    · exact .inl h
    · exact .inr h.1
  · intro k hk
    rcases h3 k hk with h | h
    · exact .inl h
    · exact .inr ⟨h.1, by simpa using h.2⟩
theorem AtV.at_ {v : Value} {t : Tag} (h : AtV base S0 w0 w b L v t) : At base S0 w0 w b L := by
  obtain ⟨S, tv, sv, pv, h1, h2, h3, _⟩ := h; exact ⟨S, tv, sv, pv, h1, h2, h3⟩
end
theorem nxt_same (L : LX) : L.nxt.stack = L.stack ∧ L.nxt.parts = L.parts ∧ L.nxt.q = L.q ∧ L.nxt.start = L.start ∧ L.nxt.inp = L.inp ∧ L.nxt.ilstart = L.ilstart ∧ L.nxt.ssf = L.ssf ∧ L.nxt.state = L.state := by
  unfold LX.nxt
  split
  · simp
  · split <;> simp
theorem pk_same (L : LX) : L.pk.stack = L.stack ∧ L.pk.parts = L.parts ∧ L.pk.q = L.q ∧ L.pk.start = L.start ∧ L.pk.inp = L.inp ∧ L.pk.ilstart = L.ilstart ∧ L.pk.ssf = L.ssf ∧ L.pk.state = L.state ∧ L.pk.pos = L.pos ∧ L.pk.line = L.line := by
  unfold LX.pk
  split
  · simp
  · split <;> simp
theorem nxt_stack (L : LX) : L.nxt.stack = L.stack := (nxt_same L).1
theorem pk_stack (L : LX) : L.pk.stack = L.stack := (pk_same L).1
theorem nxt_parts (L : LX) : L.nxt.parts = L.parts := (nxt_same L).2.1
theorem pk_parts (L : LX) : L.pk.parts = L.parts := (pk_same L).2.1
theorem nxt_q (L : LX) : L.nxt.q = L.q := (nxt_same L).2.2.1
theorem pk_q (L : LX) : L.pk.q = L.q := (pk_same L).2.2.1
theorem nxt_start (L : LX) : L.nxt.start = L.start := (nxt_same L).2.2.2.1
theorem pk_start (L : LX) : L.pk.start = L.start := (pk_same L).2.2.2.1
theorem pk_pos (L : LX) : L.pk.pos = L.pos := (pk_same L).2.2.2.2.2.2.2.2.1
theorem nxt_pos (L : LX) : L.nxt.pos = if L.inp.size ≤ L.pos then L.pos else L.pos + 1 := by
  unfold LX.nxt
  split
  · rfl
  · split <;> rfl
/-- Function f of the lexer's states: from L it comes to L', and the next state is t. -/
def Goes1 (f : Nat) (L L' : LX) (t : Tag) : Prop :=
  ∀ (base : Nat) (S0 : Nat → Prop) (w0 w : World) (b : Nat), At base S0 w0 w b L →
    Calls Tryz.prog f #[.pointer (some ⟨b, 0, none⟩)] w fun e w' => ∃ v, e = .returned v ∧ AtV base S0 w0 w' b L' v t
/-- What else is asked of a lexer that hands an item on. -/
structure LX.Rdy (L : LX) : Prop where
  parts : L.parts = []
  start : L.start ≤ L.pos
  q : L.q.length < 10
theorem LX.Ok.psh {L : LX} (ok : L.Ok) (n : Nat) : (L.psh n).Ok := ⟨ok.small, ok.pos, ok.start, ok.width, ok.lstart, ok.ilstart, ok.line, ok.asc⟩
theorem LX.Ok.stk {L : LX} (ok : L.Ok) (n : List Nat) : (L.stk n).Ok := ⟨ok.small, ok.pos, ok.start, ok.width, ok.lstart, ok.ilstart, ok.line, ok.asc⟩
theorem LX.Ok.ssfn {L : LX} (ok : L.Ok) (n : Nat) : (L.ssfn n).Ok := ⟨ok.small, ok.pos, ok.start, ok.width, ok.lstart, ok.ilstart, ok.line, ok.asc⟩
theorem LX.Ok.goes {L : LX} (ok : L.Ok) (t : Tag) : (L.goes t).Ok := ⟨ok.small, ok.pos, ok.start, ok.width, ok.lstart, ok.ilstart, ok.line, ok.asc⟩
theorem LX.Ok.emit {L : LX} (ok : L.Ok) (t : Nat) (v : ByteArray) : (L.emit t v).Ok := ⟨ok.small, ok.pos, ok.pos, ok.width, ok.lstart, ok.lstart, ok.line, ok.asc⟩
end Go.Cf

/-
  The lexer's states, path by path: the top, and keys.
-/
namespace Go.Cf
open Go.RowKit Go.Conc Go.Proofs
abbrev skipT (n : Nat) : Tag := some (true, n)
abbrev plainT (n : Nat) : Tag := some (false, n)
section
variable {L : LX}
theorem top_sp (ok : L.Ok) (hs : isSp L.chr = true) : Goes1 60 L L.nxt (skipT 60) := by
  intro base S0 w0 w b h0
  go_enter Tryz.func60, Tryz.ntmps60
  go_wp2_with fail
  refine (next_c h0 ok).mono ?_
  rintro e w1 ⟨rfl, h1⟩
  go_wp2_with fail
  refine (isSp_c _ (chr_lt ok) _).mono ?_
  rintro e w' ⟨rfl, rfl⟩
  go_wp2_with fail
  refine (skipV_c h1 60).mono ?_
  rintro e w2 ⟨rfl, hv⟩
  go_wp2_with fail
  go_ret
  exact ⟨_, rfl, hv⟩
theorem top_brace (ok : L.Ok) (hst : L.stack.length ≤ 1000000) (hs : isSp L.chr = false) (hc : L.chr = 123) : Goes1 60 L (L.nxt.psh 60) (skipT 89) := by
  have e_123_125 : (((L.chr : Nat) : Int) == 123) = true := beq_iff_eq.2 (by omega)
  clear hc
  intro base S0 w0 w b h0
  go_enter Tryz.func60, Tryz.ntmps60
  go_wp2_with fail
  refine (next_c h0 ok).mono ?_
  rintro e w1 ⟨rfl, h1⟩
  go_wp2_with fail
  refine (isSp_c _ (chr_lt ok) _).mono ?_
  rintro e w' ⟨rfl, rfl⟩
  go_wp2_with fail
  refine (push_c h1 60 (by rw [nxt_stack]; exact hst)).mono ?_
  rintro e w2 ⟨rfl, h2⟩
  go_wp2_with fail
  refine (skipV_c h2 89).mono ?_
  rintro e w3 ⟨rfl, hv⟩
  go_wp2_with fail
  go_ret
  exact ⟨_, rfl, hv⟩
theorem top_hash (ok : L.Ok) (hst : L.stack.length ≤ 1000000) (hs : isSp L.chr = false) (hc : L.chr = 35) : Goes1 60 L (L.nxt.psh 60) (plainT 90) := by
  have e_123_125 : (((L.chr : Nat) : Int) == 123) = false := beq_eq_false_iff_ne.2 (by omega)
  have e_35_125 : (((L.chr : Nat) : Int) == 35) = true := beq_iff_eq.2 (by omega)
  clear hc
  intro base S0 w0 w b h0
  go_enter Tryz.func60, Tryz.ntmps60
  go_wp2_with fail
  refine (next_c h0 ok).mono ?_
  rintro e w1 ⟨rfl, h1⟩
  go_wp2_with fail
  refine (isSp_c _ (chr_lt ok) _).mono ?_
  rintro e w' ⟨rfl, rfl⟩
  go_wp2_with fail
  refine (push_c h1 60 (by rw [nxt_stack]; exact hst)).mono ?_
  rintro e w2 ⟨rfl, h2⟩
  go_wp2_with fail
  go_ret
  exact ⟨_, rfl, h2.plain _⟩
theorem top_slash (ok : L.Ok) (hst : L.stack.length ≤ 1000000) (hs : isSp L.chr = false) (hc : L.chr = 47) (hd : L.nxt.chr = 47) : Goes1 60 L (L.nxt.nxt.psh 60) (plainT 90) := by
  have e_123_125 : (((L.chr : Nat) : Int) == 123) = false := beq_eq_false_iff_ne.2 (by omega)
  have e_35_125 : (((L.chr : Nat) : Int) == 35) = false := beq_eq_false_iff_ne.2 (by omega)
  have e_47_125 : (((L.chr : Nat) : Int) == 47) = true := beq_iff_eq.2 (by omega)
  have e_47_829 : (((L.nxt.chr : Nat) : Int) == 47) = true := beq_iff_eq.2 (by omega)
  clear hc hd
  intro base S0 w0 w b h0
  go_enter Tryz.func60, Tryz.ntmps60
  go_wp2_with fail
  refine (next_c h0 ok).mono ?_
  rintro e w1 ⟨rfl, h1⟩
  go_wp2_with fail
  refine (isSp_c _ (chr_lt ok) _).mono ?_
  rintro e w' ⟨rfl, rfl⟩
  go_wp2_with fail
  refine (next_c h1 ok.nxt).mono ?_
  rintro e w2 ⟨rfl, h2⟩
  go_wp2_with fail
  refine (push_c h2 60 (by rw [nxt_stack, nxt_stack]; exact hst)).mono ?_
  rintro e w3 ⟨rfl, h3⟩
  go_wp2_with fail
  go_ret
  exact ⟨_, rfl, h3.plain _⟩
theorem top_key (ok : L.Ok) (hst : L.stack.length ≤ 1000000) (hs : isSp L.chr = false) (h1 : L.chr ≠ 123) (h2 : L.chr ≠ 35) (h3 : L.chr ≠ 47) (h4 : L.chr ≠ 0) : Goes1 60 L (L.pk.psh 94) (plainT 95) := by
  have e_123_125 : (((L.chr : Nat) : Int) == 123) = false := beq_eq_false_iff_ne.2 (by omega)
  have e_35_125 : (((L.chr : Nat) : Int) == 35) = false := beq_eq_false_iff_ne.2 (by omega)
  have e_47_125 : (((L.chr : Nat) : Int) == 47) = false := beq_eq_false_iff_ne.2 (by omega)
  have e_0_125 : (((L.chr : Nat) : Int) == 0) = false := beq_eq_false_iff_ne.2 (by omega)
  clear h1 h2 h3 h4
  intro base S0 w0 w b h0
  go_enter Tryz.func60, Tryz.ntmps60
  go_wp2_with fail
  refine (next_c h0 ok).mono ?_
  rintro e w1 ⟨rfl, h1⟩
  go_wp2_with fail
  refine (isSp_c _ (chr_lt ok) _).mono ?_
  rintro e w' ⟨rfl, rfl⟩
  go_wp2_with fail
  refine (back_c h1 ok.nxt (nxt_width _)).mono ?_
  rintro e w2 ⟨rfl, h2⟩
  rw [nxt_back] at h2
  go_wp2_with fail
  refine (push_c h2 94 (by rw [pk_stack]; exact hst)).mono ?_
  rintro e w3 ⟨rfl, h3⟩
  go_wp2_with fail
  go_ret
  exact ⟨_, rfl, h3.plain _⟩
theorem tve_hash (ok : L.Ok) (hst : L.stack.length ≤ 1000000) (hc : L.chr = 35) : Goes1 94 L (L.nxt.psh 60) (plainT 90) := by
  have e_35_125 : (((L.chr : Nat) : Int) == 35) = true := beq_iff_eq.2 (by omega)
  clear hc
  intro base S0 w0 w b h0
  go_enter Tryz.func94, Tryz.ntmps94
  go_wp2_with fail
  refine (next_c h0 ok).mono ?_
  rintro e w1 ⟨rfl, h1⟩
  go_wp2_with fail
  refine (push_c h1 60 (by rw [nxt_stack]; exact hst)).mono ?_
  rintro e w2 ⟨rfl, h2⟩
  go_wp2_with fail
  go_ret
  exact ⟨_, rfl, h2.plain _⟩
theorem tve_slash (ok : L.Ok) (hst : L.stack.length ≤ 1000000) (hc : L.chr = 47) (hd : L.nxt.chr = 47) : Goes1 94 L (L.nxt.nxt.psh 60) (plainT 90) := by
  have e_35_125 : (((L.chr : Nat) : Int) == 35) = false := beq_eq_false_iff_ne.2 (by omega)
  have e_47_125 : (((L.chr : Nat) : Int) == 47) = true := beq_iff_eq.2 (by omega)
  have e_47_829 : (((L.nxt.chr : Nat) : Int) == 47) = true := beq_iff_eq.2 (by omega)
  clear hc hd
  intro base S0 w0 w b h0
  go_enter Tryz.func94, Tryz.ntmps94
  go_wp2_with fail
  refine (next_c h0 ok).mono ?_
  rintro e w1 ⟨rfl, h1⟩
  go_wp2_with fail
  refine (next_c h1 ok.nxt).mono ?_
  rintro e w2 ⟨rfl, h2⟩
  go_wp2_with fail
  refine (push_c h2 60 (by rw [nxt_stack, nxt_stack]; exact hst)).mono ?_
  rintro e w3 ⟨rfl, h3⟩
  go_wp2_with fail
  go_ret
  exact ⟨_, rfl, h3.plain _⟩
theorem tve_ws (ok : L.Ok) (h1 : L.chr ≠ 35) (h2 : L.chr ≠ 47) (hw : isWS L.chr = true) : Goes1 94 L L.nxt (plainT 94) := by
  have e_35_125 : (((L.chr : Nat) : Int) == 35) = false := beq_eq_false_iff_ne.2 (by omega)
  have e_47_125 : (((L.chr : Nat) : Int) == 47) = false := beq_eq_false_iff_ne.2 (by omega)
  clear h1 h2
  intro base S0 w0 w b h0
  go_enter Tryz.func94, Tryz.ntmps94
  go_wp2_with fail
  refine (next_c h0 ok).mono ?_
  rintro e w1 ⟨rfl, h1⟩
  go_wp2_with fail
  refine (isWS_c _ (chr_lt ok) _).mono ?_
  rintro e w' ⟨rfl, rfl⟩
  go_wp2_with fail
  go_ret
  exact ⟨_, rfl, h1.plain _⟩
end
end Go.Cf

/-
  Contracts of library functions at this program, in plain words (written by the shelf's tools; the parts that are used).
-/
namespace Go.Proofs
open Go.Shelf
def Tryz.lays159_ren : Go.Shelf.Ren := ⟨fun | 159 => 69 | 165 => 100 | 166 => 101 | 167 => 102 | 169 => 103 | 230 => 104 | 204 => 105 | 240 => 143 | 241 => 144 | 197 => 124 | 118 => 145 | 168 => 146 | 270 => 147 | 262 => 148 | 276 => 165 | 277 => 166 | 260 => 162 | 242 => 167 | 313 => 168 | 278 => 176 | 274 => 177 | 275 => 178 | n => n, fun | 9 => 9 | 4 => 4 | 3 => 3 | 5 => 5 | 72 => 153 | 0 => 0 | 76 => 155 | 75 => 63 | 107 => 159 | 70 => 151 | 20 => 20 | 37 => 27 | 127 => 201 | 21 => 21 | 105 => 182 | 164 => 217 | 162 => 222 | 203 => 185 | 119 => 161 | 46 => 103 | 139 => 228 | 138 => 227 | 51 => 139 | 160 => 229 | 208 => 237 | 206 => 235 | 80 => 148 | n => n, fun | 13 => 4 | 3 => 5 | 4 => 6 | n => n⟩
theorem Tryz.lays159 : Go.Proofs.Lays.n159 Tryz.prog Tryz.lays159_ren := {
  mixed := by kernel_rfl
  f118 := Tryz.func145.trans (congrArg some (by kernel_rfl))
  f159 := Tryz.func69.trans (congrArg some (by kernel_rfl))
  f165 := Tryz.func100.trans (congrArg some (by kernel_rfl))
  f166 := Tryz.func101.trans (congrArg some (by kernel_rfl))
  f167 := Tryz.func102.trans (congrArg some (by kernel_rfl))
  f168 := Tryz.func146.trans (congrArg some (by kernel_rfl))
  f169 := Tryz.func103.trans (congrArg some (by kernel_rfl))
  f197 := Tryz.func124.trans (congrArg some (by kernel_rfl))
  f204 := Tryz.func105.trans (congrArg some (by kernel_rfl))
  f230 := Tryz.func104.trans (congrArg some (by kernel_rfl))
  f240 := Tryz.func143.trans (congrArg some (by kernel_rfl))
  f241 := Tryz.func144.trans (congrArg some (by kernel_rfl))
  f242 := Tryz.func167.trans (congrArg some (by kernel_rfl))
  f260 := Tryz.func162.trans (congrArg some (by kernel_rfl))
  f262 := Tryz.func148.trans (congrArg some (by kernel_rfl))
  f270 := Tryz.func147.trans (congrArg some (by kernel_rfl))
  f274 := Tryz.func177.trans (congrArg some (by kernel_rfl))
  f275 := Tryz.func178.trans (congrArg some (by kernel_rfl))
  f276 := Tryz.func165.trans (congrArg some (by kernel_rfl))
  f277 := Tryz.func166.trans (congrArg some (by kernel_rfl))
  f278 := Tryz.func176.trans (congrArg some (by kernel_rfl))
  f313 := Tryz.func168.trans (congrArg some (by kernel_rfl))
  t0 := Tryz.underlying0
  a0 := Tryz.isAgg0
  z0 := Tryz.sizeOf0
  v0 := Tryz.zeroValue0
  t3 := Tryz.underlying3
  a3 := Tryz.isAgg3
  z3 := Tryz.sizeOf3
  v3 := Tryz.zeroValue3
  t4 := Tryz.underlying4
  a4 := Tryz.isAgg4
  z4 := Tryz.sizeOf4
  v4 := Tryz.zeroValue4
  t5 := Tryz.underlying5
  a5 := Tryz.isAgg5
  z5 := Tryz.sizeOf5
  v5 := Tryz.zeroValue5
  t9 := Tryz.underlying9
  a9 := Tryz.isAgg9
  z9 := Tryz.sizeOf9
  v9 := Tryz.zeroValue9
  t20 := Tryz.underlying20
  a20 := Tryz.isAgg20
  z20 := Tryz.sizeOf20
  v20 := Tryz.zeroValue20
  t21 := Tryz.underlying21
  a21 := Tryz.isAgg21
  z21 := Tryz.sizeOf21
  v21 := Tryz.zeroValue21
  t37 := Tryz.underlying27
  a37 := Tryz.isAgg27
  z37 := Tryz.sizeOf27
  v37 := Tryz.zeroValue27
  t46 := Tryz.underlying103
  a46 := Tryz.isAgg103
  z46 := Tryz.sizeOf103
  v46 := Tryz.zeroValue103
  t51 := Tryz.underlying139
  a51 := Tryz.isAgg139
  z51 := Tryz.sizeOf139
  v51 := Tryz.zeroValue139
  t70 := Tryz.underlying151
  a70 := Tryz.isAgg151
  z70 := Tryz.sizeOf151
  v70 := Tryz.zeroValue151
  t72 := Tryz.underlying153
  a72 := Tryz.isAgg153
  z72 := Tryz.sizeOf153
  v72 := Tryz.zeroValue153
  t75 := Tryz.underlying63
  a75 := Tryz.isAgg63
  z75 := Tryz.sizeOf63
  v75 := Tryz.zeroValue63
  t76 := Tryz.underlying155
  a76 := Tryz.isAgg155
  z76 := Tryz.sizeOf155
  v76 := Tryz.zeroValue155
  t105 := Tryz.underlying182
  a105 := Tryz.isAgg182
  z105 := Tryz.sizeOf182
  v105 := Tryz.zeroValue182
  t107 := Tryz.underlying159
  a107 := Tryz.isAgg159
  z107 := Tryz.sizeOf159
  v107 := Tryz.zeroValue159
  t119 := Tryz.underlying161
  a119 := Tryz.isAgg161
  z119 := Tryz.sizeOf161
  t127 := Tryz.underlying201
  a127 := Tryz.isAgg201
  z127 := Tryz.sizeOf201
  v127 := Tryz.zeroValue201
  t138 := Tryz.underlying227
  a138 := Tryz.isAgg227
  z138 := Tryz.sizeOf227
  v138 := Tryz.zeroValue227
  t139 := Tryz.underlying228
  a139 := Tryz.isAgg228
  z139 := Tryz.sizeOf228
  v139 := Tryz.zeroValue228
  t160 := Tryz.underlying229
  a160 := Tryz.isAgg229
  z160 := Tryz.sizeOf229
  v160 := Tryz.zeroValue229
  t162 := Tryz.underlying222
  a162 := Tryz.isAgg222
  z162 := Tryz.sizeOf222
  v162 := Tryz.zeroValue222
  t164 := Tryz.underlying217
  a164 := Tryz.isAgg217
  z164 := Tryz.sizeOf217
  v164 := Tryz.zeroValue217
  t203 := Tryz.underlying185
  a203 := Tryz.isAgg185
  z203 := Tryz.sizeOf185
  v203 := Tryz.zeroValue185
  t206 := Tryz.underlying235
  a206 := Tryz.isAgg235
  z206 := Tryz.sizeOf235
  v206 := Tryz.zeroValue235
  t208 := Tryz.underlying237
  a208 := Tryz.isAgg237
  z208 := Tryz.sizeOf237
  v208 := Tryz.zeroValue237
  g3 := by kernel_rfl
  g4 := by kernel_rfl
  g13 := by kernel_rfl }
theorem Tryz.Builder_Extra_159 : Builder.Extra Tryz.prog Tryz.lays159_ren := {
  sizeBuilder := by kernel_rfl
  liesBuilder := by kernel_rfl
  t5 := Tryz.underlying5
  a5 := Tryz.isAgg5
  z5 := Tryz.sizeOf5
  v5 := Tryz.zeroValue5
  infoByte := by kernel_rfl
  cellsByte := by kernel_rfl
  sizeByte := by kernel_rfl
  neB5 := by decide }
open Go.RowKit in
/-- strings.ToLower: "ToLower returns s with all Unicode letters mapped to their lower case.": ON ASCII TEXT OF AT MOST 2^47 BYTES. Below the heap's end the world is as it was: where a letter turns, the call makes a builder and its buffer. (LAID: no walk: one application.) -/
theorem Tryz.strings_ToLower_ascii (s : ByteArray) (w : World) (hs : s.size ≤ 140737488355328) (hascii : ∀ (j : Nat) (b : UInt8), s.data.toList[j]? = some b → b.toNat < 128) :
    Calls Tryz.prog 69 #[.string s] w fun e w' => e = .returned (.string ⟨(Lib.toLowerA s.data.toList).toArray⟩) ∧ Below w.heap.size w w' := Any.strings_ToLower_ascii Tryz.lays159 Tryz.Builder_Extra_159 s w hs hascii
def Tryz.lays163_ren : Go.Shelf.Ren := ⟨fun | 163 => 70 | 237 => 106 | 199 => 86 | 238 => 107 | 272 => 149 | 261 => 98 | 273 => 150 | 197 => 124 | 315 => 169 | 311 => 140 | 312 => 141 | 271 => 170 | 260 => 162 | 120 => 179 | n => n, fun | 9 => 9 | 37 => 27 | 3 => 3 | 0 => 0 | 5 => 5 | 4 => 4 | 40 => 118 | 119 => 161 | 21 => 21 | 51 => 139 | 141 => 150 | 105 => 182 | 196 => 191 | 193 => 188 | 198 => 194 | 49 => 192 | 194 => 189 | 201 => 197 | 226 => 215 | 46 => 103 | 227 => 216 | 139 => 228 | 138 => 227 | n => n, fun | 0 => 1 | 6 => 2 | 3 => 5 | 4 => 6 | n => n⟩
theorem Tryz.lays163 : Go.Proofs.Lays.n163 Tryz.prog Tryz.lays163_ren := {
  mixed := by kernel_rfl
  f120 := Tryz.func179.trans (congrArg some (by kernel_rfl))
  f163 := Tryz.func70.trans (congrArg some (by kernel_rfl))
  f197 := Tryz.func124.trans (congrArg some (by kernel_rfl))
  f199 := Tryz.func86.trans (congrArg some (by kernel_rfl))
  f237 := Tryz.func106.trans (congrArg some (by kernel_rfl))
  f238 := Tryz.func107.trans (congrArg some (by kernel_rfl))
  f260 := Tryz.func162.trans (congrArg some (by kernel_rfl))
  f261 := Tryz.func98.trans (congrArg some (by kernel_rfl))
  f271 := Tryz.func170.trans (congrArg some (by kernel_rfl))
  f272 := Tryz.func149.trans (congrArg some (by kernel_rfl))
  f273 := Tryz.func150.trans (congrArg some (by kernel_rfl))
  f311 := Tryz.func140.trans (congrArg some (by kernel_rfl))
  f312 := Tryz.func141.trans (congrArg some (by kernel_rfl))
  f315 := Tryz.func169.trans (congrArg some (by kernel_rfl))
  t0 := Tryz.underlying0
  a0 := Tryz.isAgg0
  z0 := Tryz.sizeOf0
  v0 := Tryz.zeroValue0
  t3 := Tryz.underlying3
  a3 := Tryz.isAgg3
  z3 := Tryz.sizeOf3
  v3 := Tryz.zeroValue3
  t4 := Tryz.underlying4
  a4 := Tryz.isAgg4
  z4 := Tryz.sizeOf4
  v4 := Tryz.zeroValue4
  t5 := Tryz.underlying5
  a5 := Tryz.isAgg5
  z5 := Tryz.sizeOf5
  v5 := Tryz.zeroValue5
  t9 := Tryz.underlying9
  a9 := Tryz.isAgg9
  z9 := Tryz.sizeOf9
  v9 := Tryz.zeroValue9
  t21 := Tryz.underlying21
  a21 := Tryz.isAgg21
  z21 := Tryz.sizeOf21
  v21 := Tryz.zeroValue21
  t37 := Tryz.underlying27
  a37 := Tryz.isAgg27
  z37 := Tryz.sizeOf27
  v37 := Tryz.zeroValue27
  t40 := Tryz.underlying118
  a40 := Tryz.isAgg118
  z40 := Tryz.sizeOf118
  v40 := Tryz.zeroValue118
  t46 := Tryz.underlying103
  a46 := Tryz.isAgg103
  z46 := Tryz.sizeOf103
  v46 := Tryz.zeroValue103
  t49 := Tryz.underlying192
  a49 := Tryz.isAgg192
  z49 := Tryz.sizeOf192
  v49 := Tryz.zeroValue192
  t51 := Tryz.underlying139
  a51 := Tryz.isAgg139
  z51 := Tryz.sizeOf139
  v51 := Tryz.zeroValue139
  t105 := Tryz.underlying182
  a105 := Tryz.isAgg182
  z105 := Tryz.sizeOf182
  v105 := Tryz.zeroValue182
  t119 := Tryz.underlying161
  a119 := Tryz.isAgg161
  z119 := Tryz.sizeOf161
  t138 := Tryz.underlying227
  a138 := Tryz.isAgg227
  z138 := Tryz.sizeOf227
  v138 := Tryz.zeroValue227
  t139 := Tryz.underlying228
  a139 := Tryz.isAgg228
  z139 := Tryz.sizeOf228
  v139 := Tryz.zeroValue228
  t141 := Tryz.underlying150
  a141 := Tryz.isAgg150
  z141 := Tryz.sizeOf150
  v141 := Tryz.zeroValue150
  t193 := Tryz.underlying188
  a193 := Tryz.isAgg188
  z193 := Tryz.sizeOf188
  v193 := Tryz.zeroValue188
  t194 := Tryz.underlying189
  a194 := Tryz.isAgg189
  z194 := Tryz.sizeOf189
  v194 := Tryz.zeroValue189
  t196 := Tryz.underlying191
  a196 := Tryz.isAgg191
  z196 := Tryz.sizeOf191
  v196 := Tryz.zeroValue191
  t198 := Tryz.underlying194
  a198 := Tryz.isAgg194
  z198 := Tryz.sizeOf194
  v198 := Tryz.zeroValue194
  t201 := Tryz.underlying197
  a201 := Tryz.isAgg197
  z201 := Tryz.sizeOf197
  v201 := Tryz.zeroValue197
  t226 := Tryz.underlying215
  a226 := Tryz.isAgg215
  z226 := Tryz.sizeOf215
  v226 := Tryz.zeroValue215
  t227 := Tryz.underlying216
  a227 := Tryz.isAgg216
  z227 := Tryz.sizeOf216
  v227 := Tryz.zeroValue216
  g0 := by kernel_rfl
  g3 := by kernel_rfl
  g4 := by kernel_rfl
  g6 := by kernel_rfl }
theorem Tryz.Space_Extra_163 : Space.Extra Tryz.prog Tryz.lays163_ren := {
  gNamed := by kernel_rfl }
open Go.RowKit in
theorem Tryz.strings_TrimSpace (s : ByteArray) (w : World) (hs : s.size ≤ 9223372036854775807) (hascii : ∀ (j : Nat) b, s.data.toList[j]? = some b → b.toNat < 128) (htab : Lib.TabIs Tryz.prog w "strings.asciiSpace" .u8 Lib.asciiSpaceTab) :
    Calls Tryz.prog 70 #[.string s] w fun e w' => e = .returned (.string ⟨(Lib.trimSpace s.data.toList).toArray⟩) ∧ w' = Lib.bytesWorld w 5 s := Any.strings_TrimSpace Tryz.lays163 Tryz.Space_Extra_163 s w hs hascii htab
def Tryz.lays192_ren : Go.Shelf.Ren := ⟨fun | 192 => 40 | 190 => 49 | 125 => 59 | 258 => 58 | 128 => 83 | 129 => 84 | 302 => 74 | 303 => 75 | 304 => 76 | 305 => 77 | 306 => 78 | 307 => 79 | 308 => 80 | 309 => 81 | 310 => 82 | 333 => 118 | 329 => 119 | 330 => 120 | 334 => 121 | 335 => 122 | 336 => 123 | 344 => 161 | n => n, fun | 31 => 23 | 0 => 0 | 9 => 9 | 3 => 3 | 46 => 103 | 51 => 139 | 53 => 141 | 4 => 4 | 183 => 132 | 182 => 131 | 131 => 136 | 5 => 5 | 218 => 176 | 222 => 180 | 228 => 211 | 229 => 212 | n => n, fun | n => n⟩
theorem Tryz.lays192 : Go.Proofs.Lays.n192 Tryz.prog Tryz.lays192_ren := {
  mixed := by kernel_rfl
  f125 := Tryz.func59.trans (congrArg some (by kernel_rfl))
  f128 := Tryz.func83.trans (congrArg some (by kernel_rfl))
  f129 := Tryz.func84.trans (congrArg some (by kernel_rfl))
  f190 := Tryz.func49.trans (congrArg some (by kernel_rfl))
  f192 := Tryz.func40.trans (congrArg some (by kernel_rfl))
  f258 := Tryz.func58.trans (congrArg some (by kernel_rfl))
  f302 := Tryz.func74.trans (congrArg some (by kernel_rfl))
  f303 := Tryz.func75.trans (congrArg some (by kernel_rfl))
  f304 := Tryz.func76.trans (congrArg some (by kernel_rfl))
  f305 := Tryz.func77.trans (congrArg some (by kernel_rfl))
  f306 := Tryz.func78.trans (congrArg some (by kernel_rfl))
  f307 := Tryz.func79.trans (congrArg some (by kernel_rfl))
  f308 := Tryz.func80.trans (congrArg some (by kernel_rfl))
  f309 := Tryz.func81.trans (congrArg some (by kernel_rfl))
  f310 := Tryz.func82.trans (congrArg some (by kernel_rfl))
  f329 := Tryz.func119.trans (congrArg some (by kernel_rfl))
  f330 := Tryz.func120.trans (congrArg some (by kernel_rfl))
  f333 := Tryz.func118.trans (congrArg some (by kernel_rfl))
  f334 := Tryz.func121.trans (congrArg some (by kernel_rfl))
  f335 := Tryz.func122.trans (congrArg some (by kernel_rfl))
  f336 := Tryz.func123.trans (congrArg some (by kernel_rfl))
  f344 := Tryz.func161.trans (congrArg some (by kernel_rfl))
  t0 := Tryz.underlying0
  a0 := Tryz.isAgg0
  z0 := Tryz.sizeOf0
  v0 := Tryz.zeroValue0
  t3 := Tryz.underlying3
  a3 := Tryz.isAgg3
  z3 := Tryz.sizeOf3
  v3 := Tryz.zeroValue3
  t4 := Tryz.underlying4
  a4 := Tryz.isAgg4
  z4 := Tryz.sizeOf4
  v4 := Tryz.zeroValue4
  t5 := Tryz.underlying5
  a5 := Tryz.isAgg5
  z5 := Tryz.sizeOf5
  v5 := Tryz.zeroValue5
  t9 := Tryz.underlying9
  a9 := Tryz.isAgg9
  z9 := Tryz.sizeOf9
  v9 := Tryz.zeroValue9
  t31 := Tryz.underlying23
  a31 := Tryz.isAgg23
  z31 := Tryz.sizeOf23
  v31 := Tryz.zeroValue23
  t46 := Tryz.underlying103
  a46 := Tryz.isAgg103
  z46 := Tryz.sizeOf103
  v46 := Tryz.zeroValue103
  t51 := Tryz.underlying139
  a51 := Tryz.isAgg139
  z51 := Tryz.sizeOf139
  v51 := Tryz.zeroValue139
  t53 := Tryz.underlying141
  a53 := Tryz.isAgg141
  z53 := Tryz.sizeOf141
  v53 := Tryz.zeroValue141
  t131 := Tryz.underlying136
  a131 := Tryz.isAgg136
  z131 := Tryz.sizeOf136
  v131 := Tryz.zeroValue136
  t182 := Tryz.underlying131
  a182 := Tryz.isAgg131
  z182 := Tryz.sizeOf131
  v182 := Tryz.zeroValue131
  t183 := Tryz.underlying132
  a183 := Tryz.isAgg132
  z183 := Tryz.sizeOf132
  v183 := Tryz.zeroValue132
  t218 := Tryz.underlying176
  a218 := Tryz.isAgg176
  z218 := Tryz.sizeOf176
  v218 := Tryz.zeroValue176
  t222 := Tryz.underlying180
  a222 := Tryz.isAgg180
  z222 := Tryz.sizeOf180
  v222 := Tryz.zeroValue180
  t228 := Tryz.underlying211
  a228 := Tryz.isAgg211
  z228 := Tryz.sizeOf211
  v228 := Tryz.zeroValue211
  t229 := Tryz.underlying212
  a229 := Tryz.isAgg212
  z229 := Tryz.sizeOf212
  v229 := Tryz.zeroValue212 }
open Go.Sort Go.RowKit in
theorem Tryz.sort_Strings (blk off cap : Nat) (ss : List (List UInt8)) (w : World) (hH : Holds encStr w blk off ss.toArray) (hblk : blk < w.heap.size) (hsz : ss.length < 4611686018427387904) :
    Calls Tryz.prog 40 #[.slice (some ⟨blk, off, none⟩) ss.length cap] w fun e w' =>
      e = .returned (.tuple #[]) ∧ ∃ n os, w' = grow (putRow encStr (Sort.ahead w n) blk off (ss.mergeSort fun x y => decide (x ≤ y)).toArray) os := Any.sort_Strings Tryz.lays192 blk off cap ss w hH hblk hsz
def Tryz.lays99_ren : Go.Shelf.Ren := ⟨fun | 99 => 117 | 206 => 160 | n => n, fun | 9 => 9 | 4 => 4 | 3 => 3 | n => n, fun | n => n⟩
theorem Tryz.lays99 : Go.Proofs.Lays.n99 Tryz.prog Tryz.lays99_ren := {
  mixed := by kernel_rfl
  f99 := Tryz.func117.trans (congrArg some (by kernel_rfl))
  f206 := Tryz.func160.trans (congrArg some (by kernel_rfl))
  t3 := Tryz.underlying3
  a3 := Tryz.isAgg3
  z3 := Tryz.sizeOf3
  v3 := Tryz.zeroValue3
  t4 := Tryz.underlying4
  a4 := Tryz.isAgg4
  z4 := Tryz.sizeOf4
  v4 := Tryz.zeroValue4
  t9 := Tryz.underlying9
  a9 := Tryz.isAgg9
  z9 := Tryz.sizeOf9
  v9 := Tryz.zeroValue9 }
open Go.RowKit Go.Lib in
/-- strings.HasPrefix: "HasPrefix reports whether the string s begins with prefix.": IT RETURNS 'Lib.hasPrefix s prefix'; the world is as it was. (LAID: no walk: one application.) -/
theorem Tryz.strings_HasPrefix (s p : ByteArray) (w : World) :
    Calls Tryz.prog 117 #[.string s, .string p] w fun e w' => e = .returned (.bool (Lib.hasPrefix s.data.toList p.data.toList)) ∧ w' = w := Any.strings_HasPrefix Tryz.lays99 s p w
open Go.RowKit Go.Sort in
/-- .. and plain. (LAID: no walk: one application.) -/
theorem Tryz.sort_Strings_none (p : Option Addr) (cap : Nat) (w : World) :
    Calls Tryz.prog 40 #[.slice p 0 cap] w fun e w' => e = .returned (.tuple #[]) ∧ w' = w := Any.sort_Strings_none Tryz.lays192 p cap w
end Go.Proofs

/-
  The lexer's states, path by path: keys, whole numbers.
-/
namespace Go.Cf
open Go.RowKit Go.Conc Go.Proofs

section
variable {L : LX}
theorem byteAt_cut (s : ByteArray) (a b i : Nat) (h : i < (s.extract a b).size) : byteAt (s.extract a b) i = byteAt s (a + i) := by
  have h2 : (s.extract a b).size = min b s.size - a := by simp
  rw [← byteAt_get (s.extract a b) i h, ← byteAt_get s (a + i) (by omega), ByteArray.getElem_extract]
theorem toList_txt (L : LX) (ok : L.Ok) : ∀ (j : Nat) (b : UInt8), L.txt.data.toList[j]? = some b → b.toNat < 128 := by
  intro j b hj
  have h1 : byteAt L.txt j = b.toNat := by unfold byteAt; rw [List.getD_eq_getElem?_getD, hj]; rfl
  have hlt : j < L.txt.size := by
    have := (List.getElem?_eq_some_iff.1 hj).1
    rwa [data_length] at this
  have h2 : byteAt L.txt j = byteAt L.inp (L.start + j) := by
    exact byteAt_cut L.inp L.start L.pos j hlt
  rw [← h1, h2]
  refine ok.asc _ ?_
  have h3 : L.txt.size = min L.pos L.inp.size - L.start := by unfold LX.txt; simp
  omega
/-- A key that is no keyword. -/
def noKw (s : ByteArray) : Prop := (Lib.toLowerA s.data.toList == [105, 110, 99, 108, 117, 100, 101]) = false
set_option maxRecDepth 100000 in
theorem kck_c {base : Nat} {S0 : Nat → Prop} {w0 w : World} {b : Nat} (h : At base S0 w0 w b L) (ok : L.Ok) (rdy : L.Rdy) (n : Nat) (hk : noKw L.txt) :
    Calls Tryz.prog 164 #[.pointer (some ⟨b, 0, none⟩), fnV n, .nilFunc] w fun e w' => e = .returned (fnV n) ∧ At base S0 w0 w' b (L.emit 3 L.txt) := by
  have c0 := h.c0
  have c1 := h.c1
  have c2 := h.c2
  have hsm := ok.small
  have hpp := ok.pos
  have hst := rdy.start
  have ha := toList_txt L ok
  have hk2 : (Lib.toLowerA L.txt.data.toList == [105, 110, 99, 108, 117, 100, 101]) = false := hk
  have hsz : L.txt.size ≤ 140737488355328 := by unfold LX.txt; simp; omega
  obtain ⟨t, ht⟩ : ∃ t, t = L.txt := ⟨_, rfl⟩
  have ht2 : L.inp.extract L.start L.pos = t := ht.symm
  rw [← ht] at ha hk2 hsz ⊢
  have HA := Lib.hid ha
  have HR := Lib.hid rdy
  have HT := Lib.hid ht
  clear ha ht hk
  go_enter Tryz.func164, Tryz.ntmps164
  go_wp2
  refine wp_still_tail 13 mixed (by kernel_rfl) ?_
  simp only [List.take_succ_cons, List.take_zero, List.drop_succ_cons, List.drop_zero]
  repeat still_step
  refine wpStill_nil ?_
  go_wp2_with fail
  refine (Tryz.strings_ToLower_ascii t _ hsz HA.out).mono ?_
  rintro e w1 ⟨rfl, hb⟩
  have h1 := At.below (h.drewN 1) hb
  clear c0 c1 c2 hb
  go_wp2_with fail
  have he := emit_c 3 h1 ok HR.out.parts HR.out.start HR.out.q
  rw [← HT.out] at he
  refine he.mono ?_
  rintro e w2 ⟨rfl, h2⟩
  go_wp2
  go_ret
  exact ⟨rfl, h2⟩
theorem top_eof (ok : L.Ok) (rdy : L.Rdy) (hc : L.chr = 0) (hle : ¬ L.nxt.start < L.nxt.pos) : Goes1 60 L (L.nxt.emit 2 L.nxt.txt) none := by
  have hs0 : isSp L.chr = false := by rw [hc]; rfl
  have HLE : Hid (((L.nxt.start : Nat) : Int) < ((L.nxt.pos : Nat) : Int) → False) := fun h => hle (by omega)
  have e_123_935 : (((L.chr : Nat) : Int) == 123) = false := beq_eq_false_iff_ne.2 (by omega)
  have e_35_935 : (((L.chr : Nat) : Int) == 35) = false := beq_eq_false_iff_ne.2 (by omega)
  have e_47_935 : (((L.chr : Nat) : Int) == 47) = false := beq_eq_false_iff_ne.2 (by omega)
  have e_0_935 : (((L.chr : Nat) : Int) == 0) = true := beq_iff_eq.2 (by omega)
  clear hc hle
  intro base S0 w0 w b h0
  go_enter Tryz.func60, Tryz.ntmps60
  go_wp2_with fail
  refine (next_c h0 ok).mono ?_
  rintro e w1 ⟨rfl, h1⟩
  go_wp2_with fail
  refine (isSp_c _ (chr_lt ok) _).mono ?_
  rintro e w' ⟨rfl, rfl⟩
  have c1 := h1.c1
  have c2 := h1.c2
  have hle : ¬ (((L.nxt.start : Nat) : Int) < ((L.nxt.pos : Nat) : Int)) := HLE.out
  have hle2 : decide (L.nxt.start < L.nxt.pos) = false := decide_eq_false (by omega)
  go_wp2_with fail
  go_quiet (fail)
  have h1 := h1.drewN nq
  go_wp2_with fail
  refine (emit_c 2 h1 ok.nxt (by simpa [nxt_parts, pk_parts] using rdy.parts) (by have := rdy.start; simp only [nxt_start, nxt_pos]; split <;> omega) (by simpa [nxt_q, pk_q] using rdy.q)).mono ?_
  rintro e w2 ⟨rfl, h2⟩
  go_wp2_with fail
  go_ret
  exact ⟨_, rfl, h2.nil⟩
theorem tve_nl (ok : L.Ok) (hc : L.chr = 10) : Goes1 94 L L.nxt.ign (plainT 60) := by
  have e_35_935 : (((L.chr : Nat) : Int) == 35) = false := beq_eq_false_iff_ne.2 (by omega)
  have e_47_935 : (((L.chr : Nat) : Int) == 47) = false := beq_eq_false_iff_ne.2 (by omega)
  have e1 : isWS L.chr = false := by rw [hc]; rfl
  have e2 : isNLb L.chr = true := by rw [hc]; rfl
  clear hc
  intro base S0 w0 w b h0
  go_enter Tryz.func94, Tryz.ntmps94
  go_wp2_with fail
  refine (next_c h0 ok).mono ?_
  rintro e w1 ⟨rfl, h1⟩
  go_wp2_with fail
  refine (isWS_c _ (chr_lt ok) _).mono ?_
  rintro e w' ⟨rfl, rfl⟩
  go_wp2_with fail
  refine (isNLb_c _ (chr_lt ok) _).mono ?_
  rintro e w' ⟨rfl, rfl⟩
  go_wp2_with fail
  refine (ign_c h1).mono ?_
  rintro e w2 ⟨rfl, h2⟩
  go_wp2_with fail
  go_ret
  exact ⟨_, rfl, h2.plain _⟩
theorem ks_key (ok : L.Ok) (e1 : isSep L.chr = false) (e2 : isSp L.chr = false) (h1 : L.chr ≠ 34) (h2 : L.chr ≠ 39) : Goes1 95 L L.pk.ign.nxt (plainT 139) := by
  have e_34_935 : (((L.chr : Nat) : Int) == 34) = false := beq_eq_false_iff_ne.2 (by omega)
  have e_39_935 : (((L.chr : Nat) : Int) == 39) = false := beq_eq_false_iff_ne.2 (by omega)
  clear h1 h2
  intro base S0 w0 w b h0
  go_enter Tryz.func95, Tryz.ntmps95
  go_wp2_with fail
  refine (peek_c h0 ok).mono ?_
  rintro e w1 ⟨rfl, h1⟩
  go_wp2_with fail
  refine (isSep_c _ (chr_lt ok) _).mono ?_
  rintro e w' ⟨rfl, rfl⟩
  go_wp2_with fail
  refine (isSp_c _ (chr_lt ok) _).mono ?_
  rintro e w' ⟨rfl, rfl⟩
  go_wp2_with fail
  refine (ign_c h1).mono ?_
  rintro e w2 ⟨rfl, h2⟩
  go_wp2_with fail
  refine (next_c h2 ok.pk.ign).mono ?_
  rintro e w3 ⟨rfl, h3⟩
  go_wp2_with fail
  go_ret
  exact ⟨_, rfl, h3.plain _⟩
theorem key_more (ok : L.Ok) (e1 : isSp L.chr = false) (e2 : isSep L.chr = false) (h1 : L.chr ≠ 0) : Goes1 139 L L.pk.nxt (plainT 139) := by
  have e_0_935 : (((L.chr : Nat) : Int) == 0) = false := beq_eq_false_iff_ne.2 (by omega)
  clear h1
  intro base S0 w0 w b h0
  go_enter Tryz.func139, Tryz.ntmps139
  go_wp2_with fail
  refine (peek_c h0 ok).mono ?_
  rintro e w1 ⟨rfl, h1⟩
  go_wp2_with fail
  refine (isSp_c _ (chr_lt ok) _).mono ?_
  rintro e w' ⟨rfl, rfl⟩
  go_wp2_with fail
  refine (isSep_c _ (chr_lt ok) _).mono ?_
  rintro e w' ⟨rfl, rfl⟩
  go_wp2_with fail
  refine (next_c h1 ok.pk).mono ?_
  rintro e w2 ⟨rfl, h2⟩
  go_wp2_with fail
  go_ret
  exact ⟨_, rfl, h2.plain _⟩
theorem key_sp (ok : L.Ok) (rdy : L.Rdy) (e1 : isSp L.chr = true) (hk : noKw L.pk.txt) : Goes1 139 L (L.pk.emit 3 L.pk.txt) (plainT 163) := by
  have HK := Lib.hid hk
  clear hk
  intro base S0 w0 w b h0
  go_enter Tryz.func139, Tryz.ntmps139
  go_wp2_with fail
  refine (peek_c h0 ok).mono ?_
  rintro e w1 ⟨rfl, h1⟩
  go_wp2_with fail
  refine (isSp_c _ (chr_lt ok) _).mono ?_
  rintro e w' ⟨rfl, rfl⟩
  go_wp2_with fail
  refine (kck_c h1 ok.pk ⟨(by simpa [nxt_parts, pk_parts] using rdy.parts), (by have := rdy.start; simp only [pk_start, pk_pos]; omega), (by simpa [nxt_q, pk_q] using rdy.q)⟩ 163 HK.out).mono ?_
  rintro e w2 ⟨rfl, h2⟩
  go_wp2_with fail
  go_ret
  exact ⟨_, rfl, h2.plain _⟩
theorem key_sep (ok : L.Ok) (rdy : L.Rdy) (e1 : isSp L.chr = false) (e2 : isSep L.chr = true) : Goes1 139 L (L.pk.emit 3 L.pk.txt) (plainT 163) := by
  intro base S0 w0 w b h0
  go_enter Tryz.func139, Tryz.ntmps139
  go_wp2_with fail
  refine (peek_c h0 ok).mono ?_
  rintro e w1 ⟨rfl, h1⟩
  go_wp2_with fail
  refine (isSp_c _ (chr_lt ok) _).mono ?_
  rintro e w' ⟨rfl, rfl⟩
  go_wp2_with fail
  refine (isSep_c _ (chr_lt ok) _).mono ?_
  rintro e w' ⟨rfl, rfl⟩
  go_wp2_with fail
  refine (emit_c 3 h1 ok.pk (by simpa [nxt_parts, pk_parts] using rdy.parts) (by have := rdy.start; simp only [pk_start, pk_pos]; omega) (by simpa [nxt_q, pk_q] using rdy.q)).mono ?_
  rintro e w2 ⟨rfl, h2⟩
  go_wp2_with fail
  go_ret
  exact ⟨_, rfl, h2.plain _⟩
theorem key_eof (ok : L.Ok) (rdy : L.Rdy) (hc : L.chr = 0) : Goes1 139 L (L.pk.emit 3 L.pk.txt) (plainT 163) := by
  have e1 : isSp L.chr = false := by rw [hc]; rfl
  have e2 : isSep L.chr = false := by rw [hc]; rfl
  have e_0_935 : (((L.chr : Nat) : Int) == 0) = true := beq_iff_eq.2 (by omega)
  clear hc
  intro base S0 w0 w b h0
  go_enter Tryz.func139, Tryz.ntmps139
  go_wp2_with fail
  refine (peek_c h0 ok).mono ?_
  rintro e w1 ⟨rfl, h1⟩
  go_wp2_with fail
  refine (isSp_c _ (chr_lt ok) _).mono ?_
  rintro e w' ⟨rfl, rfl⟩
  go_wp2_with fail
  refine (isSep_c _ (chr_lt ok) _).mono ?_
  rintro e w' ⟨rfl, rfl⟩
  go_wp2_with fail
  refine (emit_c 3 h1 ok.pk (by simpa [nxt_parts, pk_parts] using rdy.parts) (by have := rdy.start; simp only [pk_start, pk_pos]; omega) (by simpa [nxt_q, pk_q] using rdy.q)).mono ?_
  rintro e w2 ⟨rfl, h2⟩
  go_wp2_with fail
  go_ret
  exact ⟨_, rfl, h2.plain _⟩
theorem ke_sp (ok : L.Ok) (e1 : isSp L.chr = true) : Goes1 163 L L.nxt (skipT 163) := by
  intro base S0 w0 w b h0
  go_enter Tryz.func163, Tryz.ntmps163
  go_wp2_with fail
  refine (next_c h0 ok).mono ?_
  rintro e w1 ⟨rfl, h1⟩
  go_wp2_with fail
  refine (isSp_c _ (chr_lt ok) _).mono ?_
  rintro e w' ⟨rfl, rfl⟩
  go_wp2_with fail
  refine (skipV_c h1 163).mono ?_
  rintro e w2 ⟨rfl, hv⟩
  go_wp2_with fail
  go_ret
  exact ⟨_, rfl, hv⟩
theorem ke_sep (ok : L.Ok) (e1 : isSp L.chr = false) (e2 : isSep L.chr = true) : Goes1 163 L L.nxt (skipT 174) := by
  intro base S0 w0 w b h0
  go_enter Tryz.func163, Tryz.ntmps163
  go_wp2_with fail
  refine (next_c h0 ok).mono ?_
  rintro e w1 ⟨rfl, h1⟩
  go_wp2_with fail
  refine (isSp_c _ (chr_lt ok) _).mono ?_
  rintro e w' ⟨rfl, rfl⟩
  go_wp2_with fail
  refine (isSep_c _ (chr_lt ok) _).mono ?_
  rintro e w' ⟨rfl, rfl⟩
  go_wp2_with fail
  refine (skipV_c h1 174).mono ?_
  rintro e w2 ⟨rfl, hv⟩
  go_wp2_with fail
  go_ret
  exact ⟨_, rfl, hv⟩
theorem ke_eof (ok : L.Ok) (rdy : L.Rdy) (hc : L.chr = 0) : Goes1 163 L (L.nxt.emit 2 L.nxt.txt) none := by
  have e1 : isSp L.chr = false := by rw [hc]; rfl
  have e2 : isSep L.chr = false := by rw [hc]; rfl
  have e_0_935 : (((L.chr : Nat) : Int) == 0) = true := beq_iff_eq.2 (by omega)
  clear hc
  intro base S0 w0 w b h0
  go_enter Tryz.func163, Tryz.ntmps163
  go_wp2_with fail
  refine (next_c h0 ok).mono ?_
  rintro e w1 ⟨rfl, h1⟩
  go_wp2_with fail
  refine (isSp_c _ (chr_lt ok) _).mono ?_
  rintro e w' ⟨rfl, rfl⟩
  go_wp2_with fail
  refine (isSep_c _ (chr_lt ok) _).mono ?_
  rintro e w' ⟨rfl, rfl⟩
  go_wp2_with fail
  refine (emit_c 2 h1 ok.nxt (by simpa [nxt_parts, pk_parts] using rdy.parts) (by have := rdy.start; simp only [nxt_start, nxt_pos]; split <;> omega) (by simpa [nxt_q, pk_q] using rdy.q)).mono ?_
  rintro e w2 ⟨rfl, h2⟩
  go_wp2_with fail
  go_ret
  exact ⟨_, rfl, h2.nil⟩
theorem ke_other (ok : L.Ok) (e1 : isSp L.chr = false) (e2 : isSep L.chr = false) (h1 : L.chr ≠ 0) : Goes1 163 L L.pk (plainT 174) := by
  have e_0_935 : (((L.chr : Nat) : Int) == 0) = false := beq_eq_false_iff_ne.2 (by omega)
  clear h1
  intro base S0 w0 w b h0
  go_enter Tryz.func163, Tryz.ntmps163
  go_wp2_with fail
  refine (next_c h0 ok).mono ?_
  rintro e w1 ⟨rfl, h1⟩
  go_wp2_with fail
  refine (isSp_c _ (chr_lt ok) _).mono ?_
  rintro e w' ⟨rfl, rfl⟩
  go_wp2_with fail
  refine (isSep_c _ (chr_lt ok) _).mono ?_
  rintro e w' ⟨rfl, rfl⟩
  go_wp2_with fail
  refine (back_c h1 ok.nxt (nxt_width _)).mono ?_
  rintro e w2 ⟨rfl, h2⟩
  rw [nxt_back] at h2
  go_wp2_with fail
  go_ret
  exact ⟨_, rfl, h2.plain _⟩
theorem val_ws (ok : L.Ok) (e1 : isWS L.chr = true) : Goes1 174 L L.nxt (skipT 174) := by
  intro base S0 w0 w b h0
  go_enter Tryz.func174, Tryz.ntmps174
  go_wp2_with fail
  refine (next_c h0 ok).mono ?_
  rintro e w1 ⟨rfl, h1⟩
  go_wp2_with fail
  refine (isWS_c _ (chr_lt ok) _).mono ?_
  rintro e w' ⟨rfl, rfl⟩
  go_wp2_with fail
  refine (skipV_c h1 174).mono ?_
  rintro e w2 ⟨rfl, hv⟩
  go_wp2_with fail
  go_ret
  exact ⟨_, rfl, hv⟩
theorem val_dig (ok : L.Ok) (e1 : isWS L.chr = false) (e2 : isDig L.chr = true) (hd : 48 ≤ L.chr ∧ L.chr ≤ 57) : Goes1 174 L L.pk (plainT 186) := by
  have e_91_935 : (((L.chr : Nat) : Int) == 91) = false := beq_eq_false_iff_ne.2 (by omega)
  have e_123_935 : (((L.chr : Nat) : Int) == 123) = false := beq_eq_false_iff_ne.2 (by omega)
  have e_39_935 : (((L.chr : Nat) : Int) == 39) = false := beq_eq_false_iff_ne.2 (by omega)
  have e_34_935 : (((L.chr : Nat) : Int) == 34) = false := beq_eq_false_iff_ne.2 (by omega)
  have e_45_935 : (((L.chr : Nat) : Int) == 45) = false := beq_eq_false_iff_ne.2 (by omega)
  have e_40_935 : (((L.chr : Nat) : Int) == 40) = false := beq_eq_false_iff_ne.2 (by omega)
  clear hd
  intro base S0 w0 w b h0
  go_enter Tryz.func174, Tryz.ntmps174
  go_wp2_with fail
  refine (next_c h0 ok).mono ?_
  rintro e w1 ⟨rfl, h1⟩
  go_wp2_with fail
  refine (isWS_c _ (chr_lt ok) _).mono ?_
  rintro e w' ⟨rfl, rfl⟩
  go_wp2_with fail
  refine (isDig_c _ (chr_lt ok) _).mono ?_
  rintro e w' ⟨rfl, rfl⟩
  go_wp2_with fail
  refine (back_c h1 ok.nxt (nxt_width _)).mono ?_
  rintro e w2 ⟨rfl, h2⟩
  rw [nxt_back] at h2
  go_wp2_with fail
  go_ret
  exact ⟨_, rfl, h2.plain _⟩
theorem num_start (ok : L.Ok) (e2 : isDig L.chr = true) : Goes1 186 L L.nxt (plainT 199) := by
  intro base S0 w0 w b h0
  go_enter Tryz.func186, Tryz.ntmps186
  go_wp2_with fail
  refine (next_c h0 ok).mono ?_
  rintro e w1 ⟨rfl, h1⟩
  go_wp2_with fail
  refine (isDig_c _ (chr_lt ok) _).mono ?_
  rintro e w' ⟨rfl, rfl⟩
  go_wp2_with fail
  go_ret
  exact ⟨_, rfl, h1.plain _⟩
theorem num_dig (ok : L.Ok) (e2 : isDig L.chr = true) (h1 : L.chr ≠ 45) : Goes1 199 L L.nxt (plainT 199) := by
  have e_45_935 : (((L.chr : Nat) : Int) == 45) = false := beq_eq_false_iff_ne.2 (by omega)
  clear h1
  intro base S0 w0 w b h0
  go_enter Tryz.func199, Tryz.ntmps199
  go_wp2_with fail
  refine (next_c h0 ok).mono ?_
  rintro e w1 ⟨rfl, h1⟩
  go_wp2_with fail
  refine (isDig_c _ (chr_lt ok) _).mono ?_
  rintro e w' ⟨rfl, rfl⟩
  go_wp2_with fail
  go_ret
  exact ⟨_, rfl, h1.plain _⟩
theorem num_suf (ok : L.Ok) (e2 : isDig L.chr = false) (e3 : isSuf L.chr = true) (h1 : L.chr ≠ 45) (h2 : L.chr ≠ 46) : Goes1 199 L L.nxt (plainT 212) := by
  have e_45_935 : (((L.chr : Nat) : Int) == 45) = false := beq_eq_false_iff_ne.2 (by omega)
  have e_46_935 : (((L.chr : Nat) : Int) == 46) = false := beq_eq_false_iff_ne.2 (by omega)
  clear h1 h2
  intro base S0 w0 w b h0
  go_enter Tryz.func199, Tryz.ntmps199
  go_wp2_with fail
  refine (next_c h0 ok).mono ?_
  rintro e w1 ⟨rfl, h1⟩
  go_wp2_with fail
  refine (isDig_c _ (chr_lt ok) _).mono ?_
  rintro e w' ⟨rfl, rfl⟩
  go_wp2_with fail
  refine (isSuf_c _ (chr_lt ok) _).mono ?_
  rintro e w' ⟨rfl, rfl⟩
  go_wp2_with fail
  go_ret
  exact ⟨_, rfl, h1.plain _⟩
theorem num_nl (ok : L.Ok) (rdy : L.Rdy) (st : List Nat) (n : Nat) (hst : L.stack = st ++ [n]) (hl : st.length ≤ 1000000) (hc : L.chr = 10) : Goes1 199 L ((L.pk.emit 7 L.pk.txt).stk st) (plainT n) := by
  have e_45_935 : (((L.chr : Nat) : Int) == 45) = false := beq_eq_false_iff_ne.2 (by omega)
  have e_46_935 : (((L.chr : Nat) : Int) == 46) = false := beq_eq_false_iff_ne.2 (by omega)
  have e1 : isDig L.chr = false := by rw [hc]; rfl
  have e2 : isSuf L.chr = false := by rw [hc]; rfl
  have e3 : isNLb L.chr = true := by rw [hc]; rfl
  clear hc
  intro base S0 w0 w b h0
  go_enter Tryz.func199, Tryz.ntmps199
  go_wp2_with fail
  refine (next_c h0 ok).mono ?_
  rintro e w1 ⟨rfl, h1⟩
  go_wp2_with fail
  refine (isDig_c _ (chr_lt ok) _).mono ?_
  rintro e w' ⟨rfl, rfl⟩
  go_wp2_with fail
  refine (isSuf_c _ (chr_lt ok) _).mono ?_
  rintro e w' ⟨rfl, rfl⟩
  go_wp2_with fail
  refine (isNLb_c _ (chr_lt ok) _).mono ?_
  rintro e w' ⟨rfl, rfl⟩
  go_wp2_with fail
  refine (back_c h1 ok.nxt (nxt_width _)).mono ?_
  rintro e w2 ⟨rfl, h2⟩
  rw [nxt_back] at h2
  go_wp2_with fail
  refine (emit_c 7 h2 ok.pk (by simpa [nxt_parts, pk_parts] using rdy.parts) (by have := rdy.start; simp only [pk_start, pk_pos]; omega) (by simpa [nxt_q, pk_q] using rdy.q)).mono ?_
  rintro e w3 ⟨rfl, h3⟩
  go_wp2_with fail
  refine (pop_c st n h3 (by show L.pk.stack = _; rw [pk_stack]; exact hst) hl).mono ?_
  rintro e w4 ⟨rfl, h4⟩
  go_wp2_with fail
  go_ret
  exact ⟨_, rfl, h4.plain _⟩
theorem suf_b (ok : L.Ok) (hc : L.chr = 98) : Goes1 212 L L.nxt (plainT 212) := by
  have e_98_935 : (((L.chr : Nat) : Int) == 98) = true := beq_iff_eq.2 (by omega)
  clear hc
  intro base S0 w0 w b h0
  go_enter Tryz.func212, Tryz.ntmps212
  go_wp2_with fail
  refine (next_c h0 ok).mono ?_
  rintro e w1 ⟨rfl, h1⟩
  go_wp2_with fail
  go_ret
  exact ⟨_, rfl, h1.plain _⟩
theorem suf_B (ok : L.Ok) (hc : L.chr = 66) : Goes1 212 L L.nxt (plainT 212) := by
  have e_98_935 : (((L.chr : Nat) : Int) == 98) = false := beq_eq_false_iff_ne.2 (by omega)
  have e_66_935 : (((L.chr : Nat) : Int) == 66) = true := beq_iff_eq.2 (by omega)
  clear hc
  intro base S0 w0 w b h0
  go_enter Tryz.func212, Tryz.ntmps212
  go_wp2_with fail
  refine (next_c h0 ok).mono ?_
  rintro e w1 ⟨rfl, h1⟩
  go_wp2_with fail
  go_ret
  exact ⟨_, rfl, h1.plain _⟩
theorem suf_i (ok : L.Ok) (hc : L.chr = 105) : Goes1 212 L L.nxt (plainT 212) := by
  have e_98_935 : (((L.chr : Nat) : Int) == 98) = false := beq_eq_false_iff_ne.2 (by omega)
  have e_66_935 : (((L.chr : Nat) : Int) == 66) = false := beq_eq_false_iff_ne.2 (by omega)
  have e_105_935 : (((L.chr : Nat) : Int) == 105) = true := beq_iff_eq.2 (by omega)
  clear hc
  intro base S0 w0 w b h0
  go_enter Tryz.func212, Tryz.ntmps212
  go_wp2_with fail
  refine (next_c h0 ok).mono ?_
  rintro e w1 ⟨rfl, h1⟩
  go_wp2_with fail
  go_ret
  exact ⟨_, rfl, h1.plain _⟩
theorem suf_nl (ok : L.Ok) (rdy : L.Rdy) (st : List Nat) (n : Nat) (hst : L.stack = st ++ [n]) (hl : st.length ≤ 1000000) (hc : L.chr = 10) : Goes1 212 L ((L.pk.emit 7 L.pk.txt).stk st) (plainT n) := by
  have e_98_935 : (((L.chr : Nat) : Int) == 98) = false := beq_eq_false_iff_ne.2 (by omega)
  have e_66_935 : (((L.chr : Nat) : Int) == 66) = false := beq_eq_false_iff_ne.2 (by omega)
  have e_105_935 : (((L.chr : Nat) : Int) == 105) = false := beq_eq_false_iff_ne.2 (by omega)
  have e_73_935 : (((L.chr : Nat) : Int) == 73) = false := beq_eq_false_iff_ne.2 (by omega)
  have e_0_935 : (((L.chr : Nat) : Int) == 0) = false := beq_eq_false_iff_ne.2 (by omega)
  have e_125_935 : (((L.chr : Nat) : Int) == 125) = false := beq_eq_false_iff_ne.2 (by omega)
  have e_59_935 : (((L.chr : Nat) : Int) == 59) = false := beq_eq_false_iff_ne.2 (by omega)
  have e_44_935 : (((L.chr : Nat) : Int) == 44) = false := beq_eq_false_iff_ne.2 (by omega)
  have e3 : isNLb L.chr = true := by rw [hc]; rfl
  clear hc
  intro base S0 w0 w b h0
  go_enter Tryz.func212, Tryz.ntmps212
  go_wp2_with fail
  refine (next_c h0 ok).mono ?_
  rintro e w1 ⟨rfl, h1⟩
  go_wp2_with fail
  refine (back_c h1 ok.nxt (nxt_width _)).mono ?_
  rintro e w2 ⟨rfl, h2⟩
  rw [nxt_back] at h2
  go_wp2_with fail
  refine (isNLb_c _ (chr_lt ok) _).mono ?_
  rintro e w' ⟨rfl, rfl⟩
  go_wp2_with fail
  refine (emit_c 7 h2 ok.pk (by simpa [nxt_parts, pk_parts] using rdy.parts) (by have := rdy.start; simp only [pk_start, pk_pos]; omega) (by simpa [nxt_q, pk_q] using rdy.q)).mono ?_
  rintro e w3 ⟨rfl, h3⟩
  go_wp2_with fail
  refine (pop_c st n h3 (by show L.pk.stack = _; rw [pk_stack]; exact hst) hl).mono ?_
  rintro e w4 ⟨rfl, h4⟩
  go_wp2_with fail
  go_ret
  exact ⟨_, rfl, h4.plain _⟩
end
end Go.Cf
