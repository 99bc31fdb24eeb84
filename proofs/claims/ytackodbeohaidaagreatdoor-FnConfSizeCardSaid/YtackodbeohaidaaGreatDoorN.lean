/-
  The parser in memory; its stacks.
-/
import Derived.Test.YtackodbeohaidaaGreatDoorM
namespace Go.Cf
open Go.RowKit Go.Conc Go.Proofs
/-- A context: a map, or a list. -/
inductive CJ where
  | map (m : List (ByteArray × JV))
  | arr (l : List JV)
/-- v is the context c, open: its own block bears ℓ. -/
def CAt (B ℓ : Nat) (lab : Lab) (w : World) : CJ → Value → Prop
  | .map m, v => ∃ b t, v = .iface 61 (.map (some b)) ∧ Mp ℓ lab w b t ∧ t.map (fun x => (x.1, x.2.1)) = m ∧ isJs B lab w (t.map (·.2.1)) (t.map (·.2.2))
  | .arr l, v => ∃ s xs, v = .iface 75 s ∧ Rw B ℓ lab w 20 1 s l.length xs ∧ isJs B lab w l xs
/-- The contexts, the innermost ahead. -/
def CsAt (B : Nat) (lab : Lab) (w : World) : List CJ → List Value → Prop
  | [], [] => True
  | c :: cs, v :: vs => CAt B (10 + cs.length) lab w c v ∧ CsAt B lab w cs vs
  | _, _ => False
structure PX where
  L : LX
  cx : List CJ
  ks : List ByteArray
/-- What does not turn: the blocks of the parser, the lexer, the outermost map, the map of the environment; the stack of items. -/
structure PK where
  p : Nat
  b : Nat
  mp : Nat
  iv : Value
  ev : Nat
  ped : Bool
def PK.cells (K : PK) (top cv kv : Value) : Array Value :=
  #[.map (some K.mp), .pointer (some ⟨K.b, 0, none⟩), top, cv, kv, K.iv, .string { data := #[] }, .bool K.ped, .map (some K.ev)]
structure PAtX (B : Nat) (lab : Lab) (w : World) (K : PK) (X : PX) (top cv kv : Value) (vs : List Value) : Prop where
  cl : Cl 2 lab w K.p (K.cells top cv kv) 79
  lx : Lx B lab w K.b X.L
  cv : Rw B 3 lab w 20 1 cv vs.length vs.reverse
  kv : Rw B 4 lab w 9 1 kv X.ks.length (X.ks.map Value.string)
  cs : CsAt B lab w X.cx vs
  top : vs.head? = some top ∨ vs = []
  root : ∀ v, vs.getLast? = some v → v = .iface 61 (.map (some K.mp))
def PAt (B : Nat) (lab : Lab) (w : World) (K : PK) (X : PX) : Prop := ∃ top cv kv vs, PAtX B lab w K X top cv kv vs
/-- What the parser's functions may turn. -/
abbrev PM (x : Nat) : Prop := x ≠ 0 ∧ x ≠ 6 ∧ x ≠ 7
section
variable {B : Nat} {lab lab1 : Lab} {w w1 : World} {K : PK} {X : PX} {M : Nat → Prop}
theorem CAt.mv {ℓ : Nat} (m : Mv M w lab w1 lab1) (hℓ : ¬ M ℓ) (h6 : ¬ M 6) {c : CJ} {v : Value} (h : CAt B ℓ lab w c v) : CAt B ℓ lab1 w1 c v := by
  cases c with
  | map l => obtain ⟨b, t, h1, h2, h3, h4⟩ := h; exact ⟨b, t, h1, h2.mv m hℓ, h3, h4.mv m h6 _ _⟩
  | arr l => obtain ⟨s, xs, h1, h2, h3⟩ := h; exact ⟨s, xs, h1, h2.mv m hℓ, h3.mv m h6 _ _⟩
theorem CsAt.mv (m : Mv M w lab w1 lab1) (h6 : ¬ M 6) : ∀ {cs : List CJ} {vs : List Value}, (∀ i, i < cs.length → ¬ M (10 + i)) → CsAt B lab w cs vs → CsAt B lab1 w1 cs vs
  | [], [], _, h => h
  | c :: cs, v :: vs, hl, h => ⟨h.1.mv m (hl _ (by simp)) h6, h.2.mv m h6 (fun i hi => hl i (by simp; omega))⟩
  | [], _ :: _, _, h => h.elim
  | _ :: _, [], _, h => h.elim
theorem info20 : (Tryz.prog.info? 20).map (fun i => (i.zero, i.size, i.bytes)) = some (some .nilIface, 1, 16) := by kernel_rfl
theorem info9 : (Tryz.prog.info? 9).map (fun i => (i.zero, i.size, i.bytes)) = some (some (.string { data := #[] }), 1, 16) := by kernel_rfl
theorem Cl.cell {ℓ g : Nat} {cs : Array Value} {t : TypeId} (h : Cl ℓ lab w g cs t) (i : Nat) : w.cell? ⟨g, i, none⟩ = cs[i]? := blk_cell h.1 i
theorem Cl.free {ℓ g : Nat} {cs : Array Value} {t : TypeId} (h : Cl ℓ lab w g cs t) (i : Nat) : w.frozen? ⟨g, i, none⟩ = false := blk_free h.1 i
theorem Cl.set {ℓ g : Nat} {cs : Array Value} {t : TypeId} (h : Cl ℓ lab w g cs t) (i : Nat) (u : Value) : Cl ℓ lab (w.setCell ⟨g, i, none⟩ u) g (cs.setIfInBounds i u) t := ⟨blk_setCell h.1 i u, h.2⟩
/-- A slice's element is appended, and the new slice stored in the parser: what of the rest stays. -/
theorem Rw.appended {ℓ e size n n' : Nat} {v v1 : Value} {xs ys : List Value} (h : Rw B ℓ lab w e size v n xs) (ho : w1.ownsRow B e size v1 n' ys) (_hg : w.grownBy w1 v.ownBlock) (hat : v1.ownBlock = v.ownBlock ∨ ∃ b, v1.ownBlock = some b ∧ w.heap.size ≤ b) :
    Rw B ℓ (lab.ext w.heap.size ℓ) w1 e size v1 n' ys := by
  refine ⟨ho, fun k hk => ?_⟩
  rcases hat with e | ⟨b, e, hb⟩
  · rw [e] at hk
    have hlt := (h.1.lt k hk).2
    rw [Lab.ext_lt hlt]
    exact h.2 k hk
  · rw [hk] at e
    cases e
    exact Lab.ext_ge hb
set_option maxHeartbeats 400000 in
theorem pushKey_c (h : PAt B lab w K X) (hB : B ≤ w.heap.size) (hlen : X.ks.length ≤ 1000000) (s : ByteArray) :
    Calls Tryz.prog 64 #[.pointer (some ⟨K.p, 0, none⟩), .string s] w fun e w' => e = .returned (.tuple #[]) ∧ ∃ lab', PAt B lab' w' K { X with ks := X.ks ++ [s] } ∧ Mv PM w lab w' lab' := by
  obtain ⟨top, cv, kv, vs, h⟩ := h
  have c4 : w.cell? ⟨K.p, 4, none⟩ = some kv := h.cl.cell 4
  have hown := h.kv.1
  go_enter Tryz.func64, Tryz.ntmps64
  go_wp2_with (at_builtin; refine app_one B rfl _ _ 23 9 (.string { data := #[] }) 1 16 rfl Tryz.underlying23 info9 rfl (by decide) (by decide) kv X.ks.length (X.ks.map Value.string) [.string s] rfl rfl rfl (by simp; rfl) hown hB (by omega) ?_)
  intro v1 w1 hown1 hg1 hat1
  have m1 : Mv (· = 4) w lab w1 (lab.ext w.heap.size 4) := Mv.grown hg1 lab 4 (fun k hk => h.kv.2 k hk)
  have hcl := h.cl.mv m1 (by decide)
  have c4' : w1.cell? ⟨K.p, 4, none⟩ = some kv := hcl.cell 4
  have f4' : w1.frozen? ⟨K.p, 4, none⟩ = false := hcl.free 4
  have m2 : Mv (· = 2) w1 (lab.ext w.heap.size 4) (w1.setCell ⟨K.p, 4, none⟩ v1) (lab.ext w.heap.size 4) := Mv.setCell _ _ _ _ hcl.2
  have key : PAt B (lab.ext w.heap.size 4) (w1.setCell ⟨K.p, 4, none⟩ v1) K { X with ks := X.ks ++ [s] } := by
    refine ⟨top, cv, v1, vs, ?_⟩
    exact {
      cl := hcl.set 4 v1
      lx := (h.lx.mv m1 (by decide)).mv m2 (by decide)
      cv := (h.cv.mv m1 (by decide)).mv m2 (by decide)
      kv := by
        have := (h.kv.appended hown1 hg1 hat1).mv m2 (by decide)
        simpa using this
      cs := (h.cs.mv m1 (by decide) (fun i _ => by omega)).mv m2 (by decide) (fun i _ => by omega)
      top := h.top
      root := h.root }
  have mm : Mv PM w lab (w1.setCell ⟨K.p, 4, none⟩ v1) (lab.ext w.heap.size 4) := (m1.mono (M' := PM) (by rintro x rfl; decide)).trans m2 (by rintro x rfl; decide)
  obtain ⟨g, cap, e7, _, _⟩ := hown1.form (by omega)
  clear hcl m1 m2 hown hown1 hg1 hat1 h c4
  subst e7
  go_wp2
  go_end0
  exact ⟨rfl, _, key, mm⟩
end
end Go.Cf
