/-
  The lexer by plain data: where it stands, from where on, what is stacked, which state comes next.
-/
import Derived.Test.YtackodbeohaidaaGreatDoorW
import Derived.Test.YtackodbeohaidaaGreatDoorL
namespace Go.Cf
open Go.RowKit Go.Conc Go.Proofs
structure LX.Is0 (L : LX) (s : ByteArray) (p st : Nat) (stk : List Nat) : Prop where
  ok : L.Ok
  inp : L.inp = s
  pos : L.pos = p
  start : L.start = st
  stack : L.stack = stk
  parts : L.parts = []
  q : L.q = []
def LX.Is (L : LX) (s : ByteArray) (p st : Nat) (stk : List Nat) (t : Tag) : Prop := L.Is0 s p st stk ∧ L.state = t
/-- From where it stands, with no item. -/
def Leads (s : ByteArray) (p st : Nat) (stk : List Nat) (t : Tag) (p' st' : Nat) (stk' : List Nat) (t' : Tag) : Prop :=
  ∀ L : LX, L.Is s p st stk t → ∃ n L', Run n L L' ∧ L'.Is s p' st' stk' t'
/-- From where it stands, with one item: its kind, its text, its line. -/
def Emits (s : ByteArray) (p st : Nat) (stk : List Nat) (t : Tag) (ty : Nat) (val : ByteArray) (line : Int) (p' st' : Nat) (stk' : List Nat) (t' : Tag) : Prop :=
  ∀ L : LX, L.Is s p st stk t → ∃ n L' x, Run n L L' ∧ L'.q = [x] ∧ x.typ = ty ∧ x.val = val ∧ x.line = line ∧ (L'.took []).Is s p' st' stk' t'
section
variable {s : ByteArray} {p st p1 st1 p2 st2 : Nat} {stk stk1 stk2 : List Nat} {t t1 t2 : Tag} {L L1 : LX}
theorem Leads.trans (h : Leads s p st stk t p1 st1 stk1 t1) (k : Leads s p1 st1 stk1 t1 p2 st2 stk2 t2) : Leads s p st stk t p2 st2 stk2 t2 := by
  intro L hL
  obtain ⟨n, L1, r1, h1⟩ := h L hL
  obtain ⟨m, L2, r2, h2⟩ := k L1 h1
  exact ⟨_, L2, r1.trans r2, h2⟩
theorem Leads.refl : Leads s p st stk t p st stk t := fun L hL => ⟨0, L, .refl L, hL⟩
theorem Leads.emits {ty : Nat} {val : ByteArray} {line : Int} (h : Leads s p st stk t p1 st1 stk1 t1) (k : Emits s p1 st1 stk1 t1 ty val line p2 st2 stk2 t2) : Emits s p st stk t ty val line p2 st2 stk2 t2 := by
  intro L hL
  obtain ⟨n, L1, r1, h1⟩ := h L hL
  obtain ⟨m, L2, x, r2, h2⟩ := k L1 h1
  exact ⟨_, L2, x, r1.trans r2, h2⟩
theorem run1 {f : Nat} (hs : L.state = some (false, f)) (he : Enters f) (hq : L.q = []) (g : Goes1 f L L1 t) : Run 1 L (L1.goes t) := .step hq (.plain hs he g) (.refl _)
theorem run_skip {f : Nat} (hs : L.state = some (true, f)) (hq : L.q = []) : Run 1 L (L.ign.goes (some (false, f))) := .step hq (.skip hs) (.refl _)
theorem LX.Is0.goes (h : L.Is0 s p st stk) (t : Tag) : (L.goes t).Is s p st stk t := ⟨⟨h.ok.goes t, h.inp, h.pos, h.start, h.stack, h.parts, h.q⟩, rfl⟩
theorem LX.Is0.nxt (h : L.Is0 s p st stk) (hp : p < s.size) : L.nxt.Is0 s (p + 1) st stk := by
  obtain ⟨h1, h2, h3, h4, h5, h6, h7, h8⟩ := nxt_same L
  refine ⟨h.ok.nxt, by rw [h5]; exact h.inp, ?_, by rw [h4]; exact h.start, by rw [h1]; exact h.stack, by rw [h2]; exact h.parts, by rw [h3]; exact h.q⟩
  rw [nxt_pos, h.inp, h.pos, if_neg (by omega)]
theorem LX.Is0.nxtEnd (h : L.Is0 s p st stk) (hp : s.size ≤ p) : L.nxt.Is0 s p st stk := by
  obtain ⟨h1, h2, h3, h4, h5, h6, h7, h8⟩ := nxt_same L
  refine ⟨h.ok.nxt, by rw [h5]; exact h.inp, ?_, by rw [h4]; exact h.start, by rw [h1]; exact h.stack, by rw [h2]; exact h.parts, by rw [h3]; exact h.q⟩
  rw [nxt_pos, h.inp, h.pos, if_pos hp]
theorem LX.Is0.pk (h : L.Is0 s p st stk) : L.pk.Is0 s p st stk := by
  obtain ⟨h1, h2, h3, h4, h5, h6, h7, h8, h9, h10⟩ := pk_same L
  exact ⟨h.ok.pk, by rw [h5]; exact h.inp, by rw [h9]; exact h.pos, by rw [h4]; exact h.start, by rw [h1]; exact h.stack, by rw [h2]; exact h.parts, by rw [h3]; exact h.q⟩
theorem LX.Is0.ign (h : L.Is0 s p st stk) : L.ign.Is0 s p p stk := ⟨h.ok.ign, h.inp, h.pos, h.pos, h.stack, h.parts, h.q⟩
theorem LX.Is0.psh (h : L.Is0 s p st stk) (n : Nat) : (L.psh n).Is0 s p st (stk ++ [n]) := ⟨h.ok.psh n, h.inp, h.pos, h.start, by show L.stack ++ [n] = _; rw [h.stack], h.parts, h.q⟩
theorem LX.Is0.chr (h : L.Is0 s p st stk) (hp : p < s.size) : L.chr = byteAt s p := by unfold LX.chr; rw [h.inp, h.pos, if_neg (by omega)]
theorem LX.Is0.chrEnd (h : L.Is0 s p st stk) (hp : s.size ≤ p) : L.chr = 0 := by unfold LX.chr; rw [h.inp, h.pos, if_pos hp]
theorem LX.Is0.rdy (h : L.Is0 s p st stk) (hst : st ≤ p) : L.Rdy := ⟨h.parts, by rw [h.start, h.pos]; exact hst, by rw [h.q]; simp⟩
theorem LX.Is0.txt (h : L.Is0 s p st stk) : L.txt = s.extract st p := by unfold LX.txt; rw [h.inp, h.start, h.pos]
/-- An item was handed on, and is taken. -/
theorem LX.Is0.emitted (h : L.Is0 s p st stk) (ty : Nat) (st' : List Nat) (t : Tag) : ((((L.emit ty L.txt).stk st').goes t).took []).Is s p p st' t ∧ (((L.emit ty L.txt).stk st').goes t).q = [⟨ty, s.extract st p, 1 + (nlc s p : Nat), (L.pos : Int) - L.ilstart - L.txt.size⟩] := by
  refine ⟨⟨⟨?_, h.inp, h.pos, h.pos, rfl, h.parts, rfl⟩, rfl⟩, ?_⟩
  · have := h.ok.emit ty L.txt
    exact ⟨this.small, this.pos, this.start, this.width, this.lstart, this.ilstart, this.line, this.asc⟩
  · show L.q ++ [_] = _
    rw [h.q, h.txt]
    have := h.ok.line
    rw [h.inp, h.pos] at this
    simp [this]
end
end Go.Cf
