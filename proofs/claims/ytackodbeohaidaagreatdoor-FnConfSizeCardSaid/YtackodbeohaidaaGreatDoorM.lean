/-
  Blocks with labels: whose they are. What a call keeps; rows, maps, the lexer, values of a configuration in memory.
-/
import Derived.Test.YtackodbeohaidaaGreatDoorL
import Derived.Maps.OwnSet
import Derived.Deep.AppendLies
namespace Go.Cf
open Go.RowKit Go.Conc Go.Proofs
abbrev Lab := Nat → Nat
/-- Blocks from n on bear ℓ. -/
def Lab.ext (lab : Lab) (n ℓ : Nat) : Lab := fun k => if k < n then lab k else ℓ
/-- w' is as w was, but for blocks whose labels are of M, and new ones; the old blocks' labels stay. -/
structure Mv (M : Nat → Prop) (w : World) (lab : Lab) (w' : World) (lab' : Lab) : Prop where
  os : w'.os = w.os
  tape : w'.tape = w.tape
  output : w'.output = w.output
  size : w.heap.size ≤ w'.heap.size
  block : ∀ k, k < w.heap.size → ¬ M (lab k) → w'.heap[k]? = w.heap[k]?
  lab : ∀ k, k < w.heap.size → ¬ M (lab k) → lab' k = lab k
section
variable {M M' : Nat → Prop} {w w1 w2 : World} {lab lab1 lab2 : Lab}
theorem Mv.refl (M : Nat → Prop) (w : World) (lab : Lab) : Mv M w lab w lab := ⟨rfl, rfl, rfl, Nat.le_refl _, fun _ _ _ => rfl, fun _ _ _ => rfl⟩
theorem Mv.trans (h : Mv M w lab w1 lab1) (k : Mv M' w1 lab1 w2 lab2) (hM : ∀ x, M' x → M x) : Mv M w lab w2 lab2 :=
  ⟨k.os.trans h.os, k.tape.trans h.tape, k.output.trans h.output, Nat.le_trans h.size k.size,
    fun x hx hn => (k.block x (Nat.lt_of_lt_of_le hx h.size) (fun hm => hn (by rw [← h.lab x hx hn]; exact hM _ hm))).trans (h.block x hx hn),
    fun x hx hn => (k.lab x (Nat.lt_of_lt_of_le hx h.size) (fun hm => hn (by rw [← h.lab x hx hn]; exact hM _ hm))).trans (h.lab x hx hn)⟩
theorem Mv.mono (h : Mv M w lab w1 lab1) (hM : ∀ x, M x → M' x) : Mv M' w lab w1 lab1 := ⟨h.os, h.tape, h.output, h.size, fun x hx hn => h.block x hx fun hm => hn (hM _ hm), fun x hx hn => h.lab x hx fun hm => hn (hM _ hm)⟩
theorem Lab.ext_lt {lab : Lab} {n ℓ k : Nat} (h : k < n) : lab.ext n ℓ k = lab k := if_pos h
theorem Lab.ext_ge {lab : Lab} {n ℓ k : Nat} (h : n ≤ k) : lab.ext n ℓ k = ℓ := if_neg (by omega)
/-- A block is laid. -/
theorem Mv.alloc (w : World) (lab : Lab) (o : Obj) (ℓ : Nat) : Mv M w lab (w.alloc o) (lab.ext w.heap.size ℓ) :=
  ⟨rfl, rfl, rfl, by rw [World.size_alloc]; omega, fun k hk _ => ((Below.refl _ w).alloc (Nat.le_refl _) o).block k hk, fun _ hk _ => Lab.ext_lt hk⟩
theorem Mv.drewN (h : Mv M w lab w1 lab1) (n : Nat) : Mv M w lab (w1.drewN n) lab1 := ⟨h.os, h.tape, h.output, h.size, h.block, h.lab⟩
theorem Mv.setCell (w : World) (lab : Lab) (a : Addr) (u : Value) (hM : M (lab a.block)) : Mv M w lab (w.setCell a u) lab :=
  ⟨rfl, rfl, rfl, by simp [World.setCell], fun k hk hn => Below.heap_setCell w a u k (fun e => hn (by rw [e]; exact hM)), fun _ _ _ => rfl⟩
/-- What append leaves. -/
theorem Mv.grown {row : Option Nat} (hg : w.grownBy w1 row) (lab : Lab) (ℓ : Nat) (hM : ∀ k, row = some k → M (lab k)) : Mv M w lab w1 (lab.ext w.heap.size ℓ) :=
  ⟨hg.os, hg.tape, hg.output, hg.size, fun k hk hn => hg.block k hk (fun e => hn (hM k e.symm)), fun _ hk _ => Lab.ext_lt hk⟩
theorem Mv.below (h : Below w.heap.size w w1) (lab : Lab) (ℓ : Nat) : Mv M w lab w1 (lab.ext w.heap.size ℓ) :=
  ⟨h.os, h.tape, h.output, h.size, fun k hk _ => h.block k hk, fun _ hk _ => Lab.ext_lt hk⟩
theorem Mv.toBelow (h : Mv M w lab w1 lab1) {B : Nat} (hB : B ≤ w.heap.size) (hb : ∀ k, k < B → ¬ M (lab k)) : Below B w w1 :=
  ⟨h.os, h.tape, h.output, h.size, fun k hk => h.block k (by omega) (hb k hk)⟩
end
/-- A block of cells. -/
def Cl (ℓ : Nat) (lab : Lab) (w : World) (g : Nat) (cs : Array Value) (t : TypeId) : Prop := w.heap[g]? = some (.cells cs t (0, 0)) ∧ lab g = ℓ
/-- A slice that is owned. -/
def Rw (B ℓ : Nat) (lab : Lab) (w : World) (e size : Nat) (v : Value) (n : Nat) (xs : List Value) : Prop := w.ownsRow B e size v n xs ∧ ∀ k, v.ownBlock = some k → lab k = ℓ
abbrev anyR (v : Value) : Option (DataW Value × List MemPlace) := some (.held v, [])
/-- A configuration's values. -/
inductive JV where
  | int (n : Int)
  | num (f : Nat)
  | tr (b : Bool)
  | txt (s : ByteArray)
  | arr (l : List JV)
  | map (ks : List ByteArray) (l : List JV)
abbrev Ent := ByteArray × JV × Value
def entD (t : List Ent) : DataW Value := .map (t.map fun x => (.string x.1.data.toList, .held x.2.2))
/-- A map. -/
def Mp (ℓ : Nat) (lab : Lab) (w : World) (b : Nat) (t : List Ent) : Prop := w.ownsMap Tryz.prog 9 anyR b t.length (entD t) ∧ lab b = ℓ
section
variable {B ℓ : Nat} {M : Nat → Prop} {w w1 : World} {lab lab1 : Lab}
theorem Cl.mv {g : Nat} {cs : Array Value} {t : TypeId} (h : Cl ℓ lab w g cs t) (m : Mv M w lab w1 lab1) (hM : ¬ M ℓ) : Cl ℓ lab1 w1 g cs t :=
  ⟨(m.block g (lt_of_block h.1) (by rw [h.2]; exact hM)).trans h.1, (m.lab g (lt_of_block h.1) (by rw [h.2]; exact hM)).trans h.2⟩
theorem Rw.mv {e size n : Nat} {v : Value} {xs : List Value} (h : Rw B ℓ lab w e size v n xs) (m : Mv M w lab w1 lab1) (hM : ¬ M ℓ) : Rw B ℓ lab1 w1 e size v n xs := by
  obtain ⟨⟨hx, h0 | ⟨g, cap, cur, hv, hbg, hblk, hrest⟩⟩, hl⟩ := h
  · exact ⟨⟨hx, .inl h0⟩, fun k hk => by rw [h0.1] at hk; cases hk⟩
  · have hg := hl g (by rw [hv]; rfl)
    refine ⟨⟨hx, .inr ⟨g, cap, cur, hv, hbg, (m.block g (lt_of_block hblk) (by rw [hg]; exact hM)).trans hblk, hrest⟩⟩, fun k hk => ?_⟩
    rw [hv] at hk
    simp only [Value.ownBlock, Option.some.injEq] at hk
    subst hk
    exact (m.lab g (lt_of_block hblk) (by rw [hg]; exact hM)).trans hg
theorem Mp.mv {b : Nat} {t : List Ent} (h : Mp ℓ lab w b t) (m : Mv M w lab w1 lab1) (hM : ¬ M ℓ) : Mp ℓ lab1 w1 b t := by
  obtain ⟨⟨es, clock, hb, F, hs, hD⟩, hl⟩ := h
  exact ⟨⟨es, clock, (m.block b (lt_of_block hb) (by rw [hl]; exact hM)).trans hb, F, hs, hD⟩, (m.lab b (lt_of_block hb) (by rw [hl]; exact hM)).trans hl⟩
mutual
/-- v is the value j; its blocks bear 6. -/
def isJ (B : Nat) (lab : Lab) (w : World) : JV → Value → Prop
  | .int n, v => v = .iface 2 (.int .i64 n)
  | .num f, v => v = .iface 22 (.float .f64 f)
  | .tr b, v => v = .iface 4 (.bool b)
  | .txt s, v => v = .iface 9 (.string s)
  | .arr l, v => ∃ s xs, v = .iface 75 s ∧ Rw B 6 lab w 20 1 s l.length xs ∧ isJs B lab w l xs
  | .map ks l, v => ∃ b t, v = .iface 61 (.map (some b)) ∧ Mp 6 lab w b t ∧ t.map (·.1) = ks ∧ t.map (·.2.1) = l ∧ isJs B lab w l (t.map (·.2.2))
def isJs (B : Nat) (lab : Lab) (w : World) : List JV → List Value → Prop
  | [], [] => True
  | j :: js, x :: xs => isJ B lab w j x ∧ isJs B lab w js xs
  | _, _ => False
end
mutual
theorem isJ.mv (m : Mv M w lab w1 lab1) (hM : ¬ M 6) : ∀ (j : JV) (v : Value), isJ B lab w j v → isJ B lab1 w1 j v
  | .int n, v, h => h
  | .num n, v, h => h
  | .tr n, v, h => h
  | .txt n, v, h => h
  | .arr l, v, h => by
    simp only [isJ] at h ⊢
    obtain ⟨s, xs, hv, hr, hj⟩ := h
    exact ⟨s, xs, hv, hr.mv m hM, isJs.mv m hM l xs hj⟩
  | .map ks l, v, h => by
    simp only [isJ] at h ⊢
    obtain ⟨b, t, hv, hr, h1, h2, hj⟩ := h
    exact ⟨b, t, hv, hr.mv m hM, h1, h2, isJs.mv m hM l _ hj⟩
theorem isJs.mv (m : Mv M w lab w1 lab1) (hM : ¬ M 6) : ∀ (l : List JV) (xs : List Value), isJs B lab w l xs → isJs B lab1 w1 l xs
  | [], [], h => h
  | j :: js, x :: xs, h => by
    simp only [isJs] at h ⊢
    exact ⟨isJ.mv m hM j x h.1, isJs.mv m hM js xs h.2⟩
  | [], _ :: _, h => by simp [isJs] at h
  | _ :: _, [], h => by simp [isJs] at h
end
/-- The lexer, its blocks of label 1. -/
def Lx (B : Nat) (lab : Lab) (w : World) (b : Nat) (L : LX) : Prop := ∃ tv sv pv, LexAt B (fun k => lab k = 1 ∧ k < w.heap.size) w b L tv sv pv
variable {b : Nat} {L L' : LX}
theorem RepV.wide {S S' : Nat → Prop} {v : Value} {t : Tag} (h : RepV S w v t) (hS : ∀ k, S k → S' k) : RepV S' w v t := by
  match t, h with
  | none, h => exact h
  | some (false, n), h => exact h
  | some (true, n), ⟨g, hv, hg, hs⟩ => exact ⟨g, hv, hg, hS _ hs⟩
theorem Lx.mv (h : Lx B lab w b L) (m : Mv M w lab w1 lab1) (hM : ¬ M 1) : Lx B lab1 w1 b L := by
  obtain ⟨tv, sv, pv, h⟩ := h
  refine ⟨tv, sv, pv, LexAt.wide (h.agree (fun k hk => m.block k hk.2 (by rw [hk.1]; exact hM))) ?_⟩
  intro k hk
  exact ⟨(m.lab k hk.2 (by rw [hk.1]; exact hM)).trans hk.1, by have := m.size; omega⟩
theorem Lx.at (h : Lx B lab w b L) : At B (fun k => lab k = 1 ∧ k < w.heap.size) w w b L := by
  obtain ⟨tv, sv, pv, h⟩ := h
  exact ⟨_, tv, sv, pv, h, Fr.refl _ _, fun k hk => .inl hk⟩
theorem Lx.back (h : At B (fun k => lab k = 1 ∧ k < w.heap.size) w w1 b L) : Lx B (lab.ext w.heap.size 1) w1 b L ∧ Mv (· = 1) w lab w1 (lab.ext w.heap.size 1) := by
  obtain ⟨S, tv, sv, pv, h1, h2, h3⟩ := h
  refine ⟨⟨tv, sv, pv, ?_⟩, ⟨h2.os, h2.tape, h2.output, h2.size, fun k hk hn => h2.block k hk (fun e => hn e.1), fun _ hk _ => Lab.ext_lt hk⟩⟩
  have hS : ∀ k, (S k ∧ k < w1.heap.size) → (lab.ext w.heap.size 1 k = 1 ∧ k < w1.heap.size) := by
    rintro k ⟨hk, hlt⟩
    refine ⟨?_, hlt⟩
    rcases h3 k hk with h | h
    · rw [Lab.ext_lt h.2]; exact h.1
    · exact Lab.ext_ge h.1
  refine LexAt.wide (S := fun k => S k ∧ k < w1.heap.size) ?_ hS
  exact {
    blk := h1.blk
    chan := h1.chan
    stack := h1.stack
    parts := h1.parts
    st := h1.st.bound
    hb := ⟨h1.hb, lt_of_block h1.blk⟩
    hch := ⟨h1.hch, lt_of_block h1.chan⟩
    hsv := fun k hk => ⟨h1.hsv k hk, own_lt h1.stack k hk⟩
    hpv := fun k hk => ⟨h1.hpv k hk, own_lt h1.parts k hk⟩
    base := h1.base
    stv := h1.stv }
end
end Go.Cf
