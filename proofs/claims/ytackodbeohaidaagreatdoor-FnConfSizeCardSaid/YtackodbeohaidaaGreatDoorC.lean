/-
  Words on memory: what a call keeps (all but the blocks of a set, and what is new), whole blocks, the lexer in memory.
-/
import Derived.Test.YtackodbeohaidaaGreatDoorB
import Derived.WalkSpells
import Derived.WalkLawsBesides
import Derived.BigQuiet
import Derived.Deep.QuietTactic
import Derived.Lib.Hide
import Derived.StillTailTactics
import Derived.Lib.IndexBytes
namespace Go.Cf
open Go.RowKit Go.Conc
/-- w' is as w was, but for the blocks of S, and new ones. -/
structure Fr (S : Nat → Prop) (w w' : World) : Prop where
  os : w'.os = w.os
  tape : w'.tape = w.tape
  output : w'.output = w.output
  size : w.heap.size ≤ w'.heap.size
  block : ∀ k, k < w.heap.size → ¬ S k → w'.heap[k]? = w.heap[k]?
section
variable {S T : Nat → Prop} {w w1 w2 : World}
theorem Fr.refl (S : Nat → Prop) (w : World) : Fr S w w := ⟨rfl, rfl, rfl, Nat.le_refl _, fun _ _ _ => rfl⟩
theorem Fr.trans (h : Fr S w w1) (k : Fr T w1 w2) (hT : ∀ x, T x → S x ∨ w.heap.size ≤ x) : Fr S w w2 :=
  ⟨k.os.trans h.os, k.tape.trans h.tape, k.output.trans h.output, Nat.le_trans h.size k.size, fun x hx hn =>
    (k.block x (Nat.lt_of_lt_of_le hx h.size) (fun ht => (hT x ht).elim hn (fun h3 => by omega))).trans (h.block x hx hn)⟩
theorem Fr.mono (h : Fr S w w1) (hS : ∀ x, S x → T x) : Fr T w w1 := ⟨h.os, h.tape, h.output, h.size, fun x hx hn => h.block x hx fun hs => hn (hS x hs)⟩
theorem Fr.below (h : Below w.heap.size w w1) (S : Nat → Prop) : Fr S w w1 := ⟨h.os, h.tape, h.output, h.size, fun x hx _ => h.block x hx⟩
theorem Fr.toBelow (h : Fr S w w1) {B : Nat} (hB : B ≤ w.heap.size) (hS : ∀ x, S x → B ≤ x) : Below B w w1 :=
  ⟨h.os, h.tape, h.output, h.size, fun x hx => h.block x (Nat.lt_of_lt_of_le hx hB) fun hs => by have := hS x hs; omega⟩
theorem Fr.alloc (h : Fr S w w1) (o : Obj) : Fr S w (w1.alloc o) := h.trans (Fr.below ((Below.refl _ _).alloc (Nat.le_refl _) o) (fun _ => False)) (fun _ h => h.elim)
theorem Fr.drew (h : Fr S w w1) : Fr S w w1.drew := ⟨h.os, h.tape, h.output, h.size, h.block⟩
theorem Fr.drewN (h : Fr S w w1) (n : Nat) : Fr S w (w1.drewN n) := ⟨h.os, h.tape, h.output, h.size, h.block⟩
theorem Fr.setCell (h : Fr S w w1) {p : Addr} (hp : S p.block ∨ w.heap.size ≤ p.block) (u : Value) : Fr S w (w1.setCell p u) :=
  h.trans (T := fun k => k = p.block) ⟨rfl, rfl, rfl, by simp [World.setCell], fun i _ hn => Below.heap_setCell w1 p u i hn⟩ (fun k hk => by rw [hk]; exact hp)
theorem Fr.grown {row : Option Nat} (h : Fr S w w1) (hg : w1.grownBy w2 row) (hr : ∀ k, row = some k → S k ∨ w.heap.size ≤ k) : Fr S w w2 :=
  h.trans (T := fun k => row = some k) ⟨hg.os, hg.tape, hg.output, hg.size, fun i hi hn => hg.block i hi (fun he => hn he.symm)⟩ hr
theorem Fr.setChan (h : Fr S w w1) {c : Nat} (hc : S c ∨ w.heap.size ≤ c) (cap : Nat) (buf : Array Value) (cl : Bool) (s r : Nat) (tm : Bool) : Fr S w (w1.setChan c cap buf cl s r tm) :=
  h.trans (T := fun k => k = c) ⟨rfl, rfl, rfl, by simp [World.setChan], fun i _ hn => by simp only [World.setChan]; rw [Array.getElem?_setIfInBounds_ne (fun e => hn e.symm)]⟩ (fun k hk => by rw [hk]; exact hc)
theorem Fr.blk {g : Nat} {o : Obj} (h : Fr S w w1) (hb : w.heap[g]? = some o) (hn : ¬ S g) : w1.heap[g]? = some o := (h.block g (lt_of_block hb) hn).trans hb
theorem Fr.own {base : Nat} {e : TypeId} {size n : Nat} {v : Value} {xs : List Value} (h : Fr S w w1) (ho : w.ownsRow base e size v n xs) (hn : ∀ k, v.ownBlock = some k → ¬ S k) : w1.ownsRow base e size v n xs := by
  obtain ⟨hx, ho⟩ := ho
  refine ⟨hx, ?_⟩
  rcases ho with h0 | ⟨g, cap, cur, hv, hb, hblk, hrest⟩
  · exact .inl h0
  · exact .inr ⟨g, cap, cur, hv, hb, (h.block g (lt_of_block hblk) (hn g (by rw [hv]; rfl))).trans hblk, hrest⟩
theorem blk_setCell {g : Nat} {t : TypeId} {cs : Array Value} {fr : Nat × Nat} (h : w.heap[g]? = some (.cells cs t fr)) (i : Nat) (u : Value) : (w.setCell ⟨g, i, none⟩ u).heap[g]? = some (.cells (cs.setIfInBounds i u) t fr) := by
  simp [World.setCell, Array.getElem?_modify, h]
theorem blk_cell {g : Nat} {t : TypeId} {cs : Array Value} {fr : Nat × Nat} (h : w.heap[g]? = some (.cells cs t fr)) (i : Nat) : w.cell? ⟨g, i, none⟩ = cs[i]? := by
  simp [World.cell?, h]
theorem blk_free {g : Nat} {t : TypeId} {cs : Array Value} (h : w.heap[g]? = some (.cells cs t (0, 0))) (i : Nat) : w.frozen? ⟨g, i, none⟩ = false := by simp [World.frozen?, h]
end
theorem wp_still_tail {P : Program} {id : Nat} {Q : Exit → Act → World → Prop} {a : Act} {w : World} {l : List Oper} (n : Nat) (hm : P.follows .mixedOrders = true) (hB : Region.lexTailB .any l.toArray n = true)
    (h : wpStill P l.toArray w.drew (fun a' => wpList P l.toArray Q (l.drop n) a' w.drew) (l.take n) a) : (Code.region id l.toArray true).wp P Q a w :=
  wp_region_still_tail n hm hB h
/-- A byte of a text. -/
def byteAt (s : ByteArray) (i : Nat) : Nat := (s.data.toList.getD i 0).toNat
theorem byteAt_get (s : ByteArray) (i : Nat) (h : i < s.size) : (s[i]'h).toNat = byteAt s i := by
  have hd : i < s.data.size := h
  show (s.data[i]'hd).toNat = _
  simp only [byteAt, List.getD, Array.getElem?_toList, Array.getElem?_eq_getElem hd, Option.getD_some]
theorem byteAt_lt (s : ByteArray) (i : Nat) : byteAt s i < 256 := (s.data.toList.getD i 0).toNat_lt
/-- How many lines end ahead of a place. -/
def nlc (s : ByteArray) (p : Nat) : Nat := ((s.data.toList.take p).filter (fun c => c == 10)).length
theorem data_length (s : ByteArray) : s.data.toList.length = s.size := by rw [Array.length_toList]; rfl
theorem nlc_le (s : ByteArray) (p : Nat) : nlc s p ≤ s.size := by
  unfold nlc
  have h1 := List.length_filter_le (fun c : UInt8 => c == 10) (s.data.toList.take p)
  have h2 : (s.data.toList.take p).length ≤ s.data.toList.length := by rw [List.length_take]; omega
  rw [data_length] at h2
  omega
theorem nlc_succ (s : ByteArray) (p : Nat) (h : p < s.size) : nlc s (p + 1) = nlc s p + if byteAt s p = 10 then 1 else 0 := by
  unfold nlc
  have h' : p < s.data.toList.length := by rw [data_length]; exact h
  rw [List.take_succ_eq_append_getElem h', List.filter_append]
  have e : byteAt s p = (s.data.toList[p]).toNat := by unfold byteAt; rw [List.getD_eq_getElem?_getD, List.getElem?_eq_getElem h']; rfl
  by_cases hc : s.data.toList[p] = 10
  · rw [e, hc]; simp
  · have : ¬ (s.data.toList[p]).toNat = 10 := fun e2 => hc (UInt8.toNat_inj.1 e2)
    rw [e, if_neg this]
    have hf : (s.data.toList[p] == 10) = false := by rw [beq_eq_false_iff_ne]; exact hc
    simp only [List.filter_cons, hf]
    simp
theorem toList_some {t : ByteArray} (h : 0 < t.size) : t.toList.isEmpty = false := by
  rw [Lib.toList_data]
  cases hl : t.data.toList with
  | nil => have h2 : t.data.size = 0 := by rw [← Array.length_toList, hl]; rfl
           have : t.size = t.data.size := rfl
           omega
  | cons => rfl
theorem byteAt_extract (s : ByteArray) (p i : Nat) : byteAt (s.extract p s.size) i = byteAt s (p + i) := by
  unfold byteAt
  rw [Lib.extract_to_end]
  simp [List.getD, List.getElem?_drop]
abbrev i64 (n : Int) : Value := .int .i64 n
/-- A function's value; a state: none, a function, or the closure of lexSkip over one. -/
abbrev fnV (n : Nat) : Value := .func (.func n) #[] #[]
abbrev Tag := Option (Bool × Nat)
structure It where
  typ : Nat
  val : ByteArray
  line : Int
  pos : Int
def It.v (x : It) : Value := .agg #[i64 x.typ, .string x.val, i64 x.line, i64 x.pos]
/-- The lexer, as data. -/
structure LX where
  inp : ByteArray
  start : Nat
  pos : Nat
  width : Nat
  line : Int
  state : Tag
  ch : Nat
  q : List It
  cs : Nat
  cr : Nat
  stack : List Nat
  parts : List ByteArray
  ssf : Option Nat
  lstart : Nat
  ilstart : Nat
def LX.ssfV (L : LX) : Value := match L.ssf with
  | none => .nilFunc
  | some n => fnV n
def LX.cells (L : LX) (tv sv pv : Value) : Array Value :=
  #[.string L.inp, i64 L.start, i64 L.pos, i64 L.width, i64 L.line, tv, .chan (some L.ch), sv, pv, L.ssfV, i64 L.lstart, i64 L.ilstart]
/-- Bounds, and bytes below 128. -/
structure LX.Ok (L : LX) : Prop where
  small : L.inp.size ≤ 1000000
  pos : L.pos ≤ L.inp.size
  start : L.start ≤ L.inp.size
  width : L.width ≤ 1
  lstart : L.lstart ≤ L.inp.size
  ilstart : L.ilstart ≤ L.inp.size
  line : L.line = 1 + nlc L.inp L.pos
  asc : ∀ i, i < L.inp.size → byteAt L.inp i < 128
theorem LX.Ok.line0 {L : LX} (ok : L.Ok) : -10000000 ≤ L.line := by have := ok.line; omega
theorem LX.Ok.line1 {L : LX} (ok : L.Ok) : L.line ≤ 10000000 := by have := ok.line; have := nlc_le L.inp L.pos; have := ok.small; omega
/-- A state's value. -/
def RepV (S : Nat → Prop) (w : World) (v : Value) : Tag → Prop
  | none => v = .nilFunc
  | some (false, n) => v = fnV n
  | some (true, n) => ∃ g, v = .func (.func 125) #[] #[.pointer (some ⟨g, 0, none⟩)] ∧ w.heap[g]? = some (.cells #[fnV n] 107 (0, 0)) ∧ S g
/-- The lexer L lies at block b; its blocks are of S. -/
structure LexAt (base : Nat) (S : Nat → Prop) (w : World) (b : Nat) (L : LX) (tv sv pv : Value) : Prop where
  blk : w.heap[b]? = some (.cells (L.cells tv sv pv) 109 (0, 0))
  chan : w.heap[L.ch]? = some (.chan 10 (L.q.map It.v).toArray false L.cs L.cr false)
  stack : w.ownsRow base 107 1 sv L.stack.length (L.stack.map fnV)
  parts : w.ownsRow base 9 1 pv L.parts.length (L.parts.map Value.string)
  st : RepV S w tv L.state
  hb : S b
  hch : S L.ch
  hsv : ∀ k, sv.ownBlock = some k → S k
  hpv : ∀ k, pv.ownBlock = some k → S k
  base : base ≤ b
  stv : ∀ g, some g = sv.ownBlock → ∀ n, L.state = some (true, n) → tv ≠ .func (.func 125) #[] #[.pointer (some ⟨g, 0, none⟩)]
section
variable {base : Nat} {S : Nat → Prop} {w w1 : World} {b : Nat} {L L' : LX} {tv sv pv : Value}
theorem LexAt.c0 (h : LexAt base S w b L tv sv pv) : w.cell? ⟨b, 0, none⟩ = some (.string L.inp) := blk_cell h.blk 0
theorem LexAt.c1 (h : LexAt base S w b L tv sv pv) : w.cell? ⟨b, 1, none⟩ = some (i64 L.start) := blk_cell h.blk 1
theorem LexAt.c2 (h : LexAt base S w b L tv sv pv) : w.cell? ⟨b, 2, none⟩ = some (i64 L.pos) := blk_cell h.blk 2
theorem LexAt.c3 (h : LexAt base S w b L tv sv pv) : w.cell? ⟨b, 3, none⟩ = some (i64 L.width) := blk_cell h.blk 3
theorem LexAt.c4 (h : LexAt base S w b L tv sv pv) : w.cell? ⟨b, 4, none⟩ = some (i64 L.line) := blk_cell h.blk 4
theorem LexAt.c5 (h : LexAt base S w b L tv sv pv) : w.cell? ⟨b, 5, none⟩ = some (tv) := blk_cell h.blk 5
theorem LexAt.c6 (h : LexAt base S w b L tv sv pv) : w.cell? ⟨b, 6, none⟩ = some (.chan (some L.ch)) := blk_cell h.blk 6
theorem LexAt.c7 (h : LexAt base S w b L tv sv pv) : w.cell? ⟨b, 7, none⟩ = some (sv) := blk_cell h.blk 7
theorem LexAt.c8 (h : LexAt base S w b L tv sv pv) : w.cell? ⟨b, 8, none⟩ = some (pv) := blk_cell h.blk 8
theorem LexAt.c9 (h : LexAt base S w b L tv sv pv) : w.cell? ⟨b, 9, none⟩ = some (L.ssfV) := blk_cell h.blk 9
theorem LexAt.c10 (h : LexAt base S w b L tv sv pv) : w.cell? ⟨b, 10, none⟩ = some (i64 L.lstart) := blk_cell h.blk 10
theorem LexAt.c11 (h : LexAt base S w b L tv sv pv) : w.cell? ⟨b, 11, none⟩ = some (i64 L.ilstart) := blk_cell h.blk 11
theorem LexAt.free (h : LexAt base S w b L tv sv pv) (i : Nat) : w.frozen? ⟨b, i, none⟩ = false := blk_free h.blk i
theorem own_ne_blk {e t : TypeId} {size n : Nat} {v : Value} {xs : List Value} {cs : Array Value} {fr : Nat × Nat} (h : w.ownsRow base e size v n xs) (hb : w.heap[b]? = some (.cells cs t fr)) (ht : e ≠ t) : v.ownBlock ≠ some b := by
  rintro hv
  obtain ⟨_, ⟨rfl, _⟩ | ⟨g, cap, cur, rfl, _, hblk, _⟩⟩ := h
  · cases hv
  · simp only [Value.ownBlock, Option.some.injEq] at hv
    subst hv
    rw [hb] at hblk
    injection hblk with hblk
    injection hblk with _ h2 _
    exact ht h2.symm
theorem LexAt.ne_chan (h : LexAt base S w b L tv sv pv) : L.ch ≠ b := by
  intro e
  have := h.chan
  rw [e, h.blk] at this
  cases this
theorem RepV.far {v : Value} {t : Tag} (h : RepV S w v t) (hb : w.heap[b]? = some (.cells (L.cells tv sv pv) 109 (0, 0))) (i : Nat) (u : Value) : RepV S (w.setCell ⟨b, i, none⟩ u) v t := by
  match t, h with
  | none, h => exact h
  | some (false, n), h => exact h
  | some (true, n), ⟨g, hv, hg, hs⟩ =>
    refine ⟨g, hv, ?_, hs⟩
    rw [Below.heap_setCell _ _ _ _ ?_]
    · exact hg
    · intro e
      simp only at e
      rw [e, hb] at hg
      injection hg with hg
      injection hg with _ h2 _
      cases h2
theorem LexAt.set (h : LexAt base S w b L tv sv pv) (i : Nat) (u : Value) (hc : (L.cells tv sv pv).setIfInBounds i u = L'.cells tv sv pv) (hch : L'.ch = L.ch) (hq : L'.q = L.q) (hcs : L'.cs = L.cs) (hcr : L'.cr = L.cr)
    (hst : L'.stack = L.stack) (hpa : L'.parts = L.parts) (hta : L'.state = L.state) : LexAt base S (w.setCell ⟨b, i, none⟩ u) b L' tv sv pv where
  blk := by rw [blk_setCell h.blk, hc]
  chan := by rw [Below.heap_setCell _ _ _ _ (by rw [hch]; exact h.ne_chan), hch, hq, hcs, hcr]; exact h.chan
  stack := by rw [hst]; exact ownsRow_setCell_other h.stack (own_ne_blk h.stack h.blk (by decide)) u
  parts := by rw [hpa]; exact ownsRow_setCell_other h.parts (own_ne_blk h.parts h.blk (by decide)) u
  st := by rw [hta]; exact h.st.far h.blk i u
  hb := h.hb
  hch := by rw [hch]; exact h.hch
  hsv := h.hsv
  hpv := h.hpv
  base := h.base
  stv := by rw [hta]; exact h.stv
theorem LexAt.drewN (h : LexAt base S w b L tv sv pv) (n : Nat) : LexAt base S (w.drewN n) b L tv sv pv := ⟨h.blk, h.chan, h.stack, h.parts, h.st, h.hb, h.hch, h.hsv, h.hpv, h.base, h.stv⟩
end
/-- Seen from w0, in which the lexer's blocks were S0's: it is L now, in w; all else is as it was. -/
def At (base : Nat) (S0 : Nat → Prop) (w0 w : World) (b : Nat) (L : LX) : Prop :=
  ∃ S tv sv pv, LexAt base S w b L tv sv pv ∧ Fr S0 w0 w ∧ ∀ k, S k → S0 k ∨ (w0.heap.size ≤ k ∧ k < w.heap.size)
section
variable {base : Nat} {S0 : Nat → Prop} {w0 w w1 : World} {b : Nat} {L L' : LX}
theorem At.set (h : At base S0 w0 w b L) (i : Nat) (u : Value) (hc : ∀ tv sv pv, (L.cells tv sv pv).setIfInBounds i u = L'.cells tv sv pv) (hch : L'.ch = L.ch) (hq : L'.q = L.q) (hcs : L'.cs = L.cs) (hcr : L'.cr = L.cr)
    (hst : L'.stack = L.stack) (hpa : L'.parts = L.parts) (hta : L'.state = L.state) : At base S0 w0 (w.setCell ⟨b, i, none⟩ u) b L' := by
  obtain ⟨S, tv, sv, pv, h1, h2, h3⟩ := h
  refine ⟨S, tv, sv, pv, h1.set i u (hc tv sv pv) hch hq hcs hcr hst hpa hta, h2.setCell ?_ u, ?_⟩
  · rcases h3 b h1.hb with h | h
    · exact .inl h
    · exact .inr h.1
  · intro k hk
    rcases h3 k hk with h | h
    · exact .inl h
    · exact .inr ⟨h.1, by simpa using h.2⟩
theorem At.drewN (h : At base S0 w0 w b L) (n : Nat) : At base S0 w0 (w.drewN n) b L := by
  obtain ⟨S, tv, sv, pv, h1, h2, h3⟩ := h
  exact ⟨S, tv, sv, pv, h1.drewN n, h2.drewN n, h3⟩
theorem At.drew (h : At base S0 w0 w b L) : At base S0 w0 w.drew b L := h.drewN 1
theorem At.free (h : At base S0 w0 w b L) (i : Nat) : w.frozen? ⟨b, i, none⟩ = false := by obtain ⟨S, tv, sv, pv, h1, _⟩ := h; exact h1.free i
theorem At.c0 (h : At base S0 w0 w b L) : w.cell? ⟨b, 0, none⟩ = some (.string L.inp) := by obtain ⟨S, tv, sv, pv, h1, _⟩ := h; exact h1.c0
theorem At.c1 (h : At base S0 w0 w b L) : w.cell? ⟨b, 1, none⟩ = some (i64 L.start) := by obtain ⟨S, tv, sv, pv, h1, _⟩ := h; exact h1.c1
theorem At.c2 (h : At base S0 w0 w b L) : w.cell? ⟨b, 2, none⟩ = some (i64 L.pos) := by obtain ⟨S, tv, sv, pv, h1, _⟩ := h; exact h1.c2
theorem At.c3 (h : At base S0 w0 w b L) : w.cell? ⟨b, 3, none⟩ = some (i64 L.width) := by obtain ⟨S, tv, sv, pv, h1, _⟩ := h; exact h1.c3
theorem At.c4 (h : At base S0 w0 w b L) : w.cell? ⟨b, 4, none⟩ = some (i64 L.line) := by obtain ⟨S, tv, sv, pv, h1, _⟩ := h; exact h1.c4
theorem At.c9 (h : At base S0 w0 w b L) : w.cell? ⟨b, 9, none⟩ = some (L.ssfV) := by obtain ⟨S, tv, sv, pv, h1, _⟩ := h; exact h1.c9
theorem At.c10 (h : At base S0 w0 w b L) : w.cell? ⟨b, 10, none⟩ = some (i64 L.lstart) := by obtain ⟨S, tv, sv, pv, h1, _⟩ := h; exact h1.c10
theorem At.c11 (h : At base S0 w0 w b L) : w.cell? ⟨b, 11, none⟩ = some (i64 L.ilstart) := by obtain ⟨S, tv, sv, pv, h1, _⟩ := h; exact h1.c11
theorem At.c6 (h : At base S0 w0 w b L) : w.cell? ⟨b, 6, none⟩ = some (.chan (some L.ch)) := by obtain ⟨S, tv, sv, pv, h1, _⟩ := h; exact h1.c6
end
/-- What the next byte is: 0 at the end. -/
def LX.chr (L : LX) : Nat := if L.inp.size ≤ L.pos then 0 else byteAt L.inp L.pos
def LX.nxt (L : LX) : LX :=
  if L.inp.size ≤ L.pos then { L with width := 0 }
  else if byteAt L.inp L.pos = 10 then { L with width := 1, pos := L.pos + 1, line := L.line + 1, lstart := L.pos }
  else { L with width := 1, pos := L.pos + 1 }
def LX.back (L : LX) : LX :=
  { L with pos := L.pos - L.width, line := if L.pos - L.width < L.inp.size ∧ byteAt L.inp (L.pos - L.width) = 10 then L.line - 1 else L.line }
def LX.ign (L : LX) : LX := { L with start := L.pos, ilstart := L.lstart }
/-- A look at the next byte. -/
def LX.pk (L : LX) : LX :=
  if L.inp.size ≤ L.pos then { L with width := 0 }
  else if byteAt L.inp L.pos = 10 then { L with width := 1, lstart := L.pos }
  else { L with width := 1 }
section
variable {L : LX}
theorem LX.Ok.nxt (ok : L.Ok) : L.nxt.Ok := by
  unfold LX.nxt
  by_cases he : L.inp.size ≤ L.pos
  · rw [if_pos he]; exact ⟨ok.small, ok.pos, ok.start, by simp, ok.lstart, ok.ilstart, ok.line, ok.asc⟩
  · rw [if_neg he]
    have hs := nlc_succ L.inp L.pos (by omega)
    have hl := ok.line
    by_cases hc : byteAt L.inp L.pos = 10
    · rw [if_pos hc]; rw [if_pos hc] at hs
      exact ⟨ok.small, by show L.pos + 1 ≤ L.inp.size; omega, ok.start, by simp, ok.pos, ok.ilstart, by show L.line + 1 = 1 + (nlc L.inp (L.pos + 1) : Nat); omega, ok.asc⟩
    · rw [if_neg hc]; rw [if_neg hc] at hs
      exact ⟨ok.small, by show L.pos + 1 ≤ L.inp.size; omega, ok.start, by simp, ok.lstart, ok.ilstart, by show L.line = 1 + (nlc L.inp (L.pos + 1) : Nat); omega, ok.asc⟩
theorem LX.Ok.back (ok : L.Ok) (hw : L.width = 1 ∧ 1 ≤ L.pos ∨ L.width = 0 ∧ L.inp.size ≤ L.pos) : L.back.Ok := by
  unfold LX.back
  have hl := ok.line
  rcases hw with ⟨hw, hp⟩ | ⟨hw, hp⟩
  · have hs := nlc_succ L.inp (L.pos - 1) (by have := ok.pos; omega)
    rw [show L.pos - 1 + 1 = L.pos from by omega] at hs
    have hq : L.pos - 1 < L.inp.size := by have := ok.pos; omega
    rw [hw]
    by_cases hc : byteAt L.inp (L.pos - 1) = 10
    · rw [if_pos ⟨hq, hc⟩]; rw [if_pos hc] at hs
      exact ⟨ok.small, by show L.pos - 1 ≤ L.inp.size; omega, ok.start, by show (1 : Nat) ≤ 1; omega, ok.lstart, ok.ilstart, by show L.line - 1 = 1 + (nlc L.inp (L.pos - 1) : Nat); omega, ok.asc⟩
    · rw [if_neg (fun e => hc e.2)]; rw [if_neg hc] at hs
      exact ⟨ok.small, by show L.pos - 1 ≤ L.inp.size; omega, ok.start, by show (1 : Nat) ≤ 1; omega, ok.lstart, ok.ilstart, by show L.line = 1 + (nlc L.inp (L.pos - 1) : Nat); omega, ok.asc⟩
  · rw [hw, if_neg (fun e => by have := e.1; omega)]
    exact ⟨ok.small, by show L.pos - 0 ≤ L.inp.size; have := ok.pos; omega, ok.start, by show (0 : Nat) ≤ 1; omega, ok.lstart, ok.ilstart, by show L.line = 1 + (nlc L.inp (L.pos - 0) : Nat); simpa using hl, ok.asc⟩
theorem LX.Ok.ign (ok : L.Ok) : L.ign.Ok := ⟨ok.small, ok.pos, ok.pos, ok.width, ok.lstart, ok.lstart, ok.line, ok.asc⟩
theorem LX.Ok.pk (ok : L.Ok) : L.pk.Ok := by
  unfold LX.pk
  by_cases he : L.inp.size ≤ L.pos
  · rw [if_pos he]; exact ⟨ok.small, ok.pos, ok.start, by simp, ok.lstart, ok.ilstart, ok.line, ok.asc⟩
  · rw [if_neg he]
    by_cases hc : byteAt L.inp L.pos = 10
    · rw [if_pos hc]; exact ⟨ok.small, ok.pos, ok.start, by simp, ok.pos, ok.ilstart, ok.line, ok.asc⟩
    · rw [if_neg hc]; exact ⟨ok.small, ok.pos, ok.start, by simp, ok.lstart, ok.ilstart, ok.line, ok.asc⟩
theorem nxt_back (L : LX) : L.nxt.back = L.pk := by
  unfold LX.nxt LX.pk
  by_cases he : L.inp.size ≤ L.pos
  · rw [if_pos he, if_pos he]
    unfold LX.back
    simp only [Nat.sub_zero]
    rw [if_neg (fun e => by have := e.1; omega)]
  · rw [if_neg he, if_neg he]
    by_cases hc : byteAt L.inp L.pos = 10
    · rw [if_pos hc, if_pos hc]
      unfold LX.back
      simp only [Nat.add_sub_cancel]
      rw [if_pos ⟨by omega, hc⟩]
      simp only [Int.add_sub_cancel]
    · rw [if_neg hc, if_neg hc]
      unfold LX.back
      simp only [Nat.add_sub_cancel]
      rw [if_neg (fun e => hc e.2)]
theorem chr_lt (ok : L.Ok) : L.chr < 128 := by
  unfold LX.chr
  by_cases he : L.inp.size ≤ L.pos
  · rw [if_pos he]; omega
  · rw [if_neg he]; exact ok.asc _ (by omega)
theorem nxt_width (L : LX) : L.nxt.width ≤ L.nxt.pos := by
  unfold LX.nxt
  by_cases he : L.inp.size ≤ L.pos
  · rw [if_pos he]; simp
  · rw [if_neg he]
    by_cases hc : byteAt L.inp L.pos = 10
    · rw [if_pos hc]; simp
    · rw [if_neg hc]; simp
end
end Go.Cf
