/-
  A Node under construction: what stands in memory round by round.
-/
import Derived.Test.YtackodbeohaidaaGreatDoorNn
namespace Go.Cf
open Go.RowKit Go.Conc Go.Proofs Go.Maps Go.Sort
theorem grown_setCell (w : World) (g i : Nat) (u : Value) : w.grownBy (w.setCell ⟨g, i, none⟩ u) (some g) := ⟨rfl, rfl, rfl, by simp [World.setCell], fun k _ hne => Below.heap_setCell w _ u k (fun e => hne (by rw [e]))⟩
/-- What was being made is finished. -/
def Lab.fin (lab : Lab) (n : Nat) : Lab := fun b => if lab b = 30 ∨ lab b = 31 then (if n ≤ b then 9 else lab b) else lab b
/-- A Node of kind kd is being made in block o: its keys stand, k of its values are there. -/
structure NInv (kd : Int) (w : World) (lab : Lab) (B o : Nat) (kv : Value) (ks : List ByteArray) (l : List JV) (k : Nat) (lv : Value) (cs : List (Array Value)) (wr : World) (labr : Lab) : Prop where
  out : Cl 32 labr wr o (ndC kd 0 0 false { data := #[] } kv lv) 26
  own : w.heap.size ≤ o
  res : Cl 33 labr wr w.heap.size (ndC 0 0 0 false { data := #[] } nilS nilS) 26
  keys : Rw w.heap.size 31 labr wr 9 1 kv ks.length (ks.map .string)
  list : Rw w.heap.size 30 labr wr 26 7 lv k (flat cs)
  done : isNs B labr wr (l.take k) cs
  below : Below w.heap.size w wr
  lab : ∀ k, k < w.heap.size → labr k = lab k
section
variable {kd : Int} {w : World} {lab : Lab} {B o : Nat} {kv : Value} {ks : List ByteArray} {l : List JV} {k : Nat} {lv : Value} {cs : List (Array Value)} {wr w1 : World} {labr lab1 : Lab}
theorem NInv.mv (h : NInv kd w lab B o kv ks l k lv cs wr labr) (m : Mv (fun _ => False) wr labr w1 lab1) : NInv kd w lab B o kv ks l k lv cs w1 lab1 :=
  { out := h.out.mv m (fun h => h)
    own := h.own
    res := h.res.mv m (fun h => h)
    keys := h.keys.mv m (fun h => h)
    list := h.list.mv m (fun h => h)
    done := isNs.mv m (fun h => h) _ _ h.done
    below := ⟨m.os.trans h.below.os, m.tape.trans h.below.tape, m.output.trans h.below.output, Nat.le_trans h.below.size m.size, fun x hx => (m.block x (Nat.lt_of_lt_of_le hx h.below.size) (fun h => h)).trans (h.below.block x hx)⟩
    lab := fun x hx => (m.lab x (Nat.lt_of_lt_of_le hx h.below.size) (fun h => h)).trans (h.lab x hx) }
theorem NInv.drew (h : NInv kd w lab B o kv ks l k lv cs wr labr) : NInv kd w lab B o kv ks l k lv cs wr.drew labr := h.mv ((Mv.refl _ wr labr).drewN 1)
theorem NInv.toMv (h : NInv kd w lab B o kv ks l k lv cs wr labr) : Mv (fun _ => False) w lab wr labr :=
  ⟨h.below.os, h.below.tape, h.below.output, h.below.size, fun x hx _ => h.below.block x hx, fun x hx _ => h.lab x hx⟩
theorem Rw.own_lab {B ℓ e size n : Nat} {lab : Lab} {w : World} {v : Value} {xs : List Value} (h : Rw B ℓ lab w e size v n xs) (b : Nat) (hb : v.ownBlock = some b) : lab b = ℓ ∧ B ≤ b ∧ b < w.heap.size :=
  ⟨h.2 b hb, h.1.lt b hb⟩
theorem NInv.cell6 (h : NInv kd w lab B o kv ks l k lv cs wr labr) : wr.cell? ⟨o, 6, none⟩ = some lv ∧ wr.frozen? ⟨o, 6, none⟩ = false := ⟨blk_cell h.out.1 6, blk_free h.out.1 6⟩
theorem NInv.cell5 (h : NInv kd w lab B o kv ks l k lv cs wr labr) : wr.cell? ⟨o, 5, none⟩ = some kv := blk_cell h.out.1 5
/-- Another value's row is appended, and laid into the Node. -/
theorem NInv.step (h : NInv kd w lab B o kv ks l k lv cs wr labr) {j : JV} {c : Array Value} (hj : l[k]? = some j) (hc : isN B labr wr j c) {v1 : Value}
    (hown : w1.ownsRow w.heap.size 26 7 v1 (k + 1) (flat cs ++ c.toList)) (hg : wr.grownBy w1 lv.ownBlock) (hat : v1.ownBlock = lv.ownBlock ∨ ∃ b, v1.ownBlock = some b ∧ wr.heap.size ≤ b) :
    NInv kd w lab B o kv ks l (k + 1) v1 (cs ++ [c]) (w1.setCell ⟨o, 6, none⟩ v1) (labr.ext wr.heap.size 30) := by
  have m1 : Mv (· = 30) wr labr w1 (labr.ext wr.heap.size 30) := Mv.grown hg labr 30 (fun x hx => (h.list.own_lab x hx).1)
  have o1 := h.out.mv m1 (by decide)
  have hl1 : ∀ b, v1.ownBlock = some b → labr.ext wr.heap.size 30 b = 30 := by
    intro b hb
    rcases hat with e | ⟨b', e, hge⟩
    · rw [e] at hb
      rw [Lab.ext_lt (h.list.own_lab b hb).2.2]
      exact (h.list.own_lab b hb).1
    · rw [hb] at e
      cases e
      exact Lab.ext_ge hge
  have m2 : Mv (· = 32) w1 (labr.ext wr.heap.size 30) (w1.setCell ⟨o, 6, none⟩ v1) (labr.ext wr.heap.size 30) := Mv.setCell _ _ _ _ o1.2
  have hne : v1.ownBlock ≠ some o := by
    intro e
    have := hl1 o e
    rw [o1.2] at this
    cases this
  have hB1 : Below w.heap.size w w1 := h.below.grown hg h.below.size (fun x hx => (h.list.own_lab x hx).2.1)
  exact {
    out := ⟨blk_setCell o1.1 6 v1, o1.2⟩
    own := h.own
    res := (h.res.mv m1 (by decide)).mv m2 (by decide)
    keys := (h.keys.mv m1 (by decide)).mv m2 (by decide)
    list := ⟨by
      have e : flat (cs ++ [c]) = flat cs ++ c.toList := by simp [flat]
      rw [e]
      exact ownsRow_setCell_other hown hne v1, hl1⟩
    done := by
      have hlt := (List.getElem?_eq_some_iff.1 hj).1
      have e : l.take (k + 1) = l.take k ++ [j] := by
        rw [List.take_add_one, hj]
        rfl
      rw [e]
      exact isNs.mv m2 (by decide) _ _ (isNs.mv m1 (by decide) _ _ (isNs_app h.done hc))
    below := hB1.grown (grown_setCell w1 o 6 v1) (Nat.le_trans h.below.size hg.size) (fun x hx => by cases hx; exact h.own)
    lab := fun x hx => by rw [Lab.ext_lt (Nat.lt_of_lt_of_le hx h.below.size)]; exact h.lab x hx }
/-- All values are there: the rows are turned to what is finished. -/
theorem NInv.finish (h : NInv kd w lab B o kv ks l l.length lv cs wr labr) (hB : B ≤ w.heap.size) :
    Mv (fun _ => False) w lab wr (Lab.fin labr w.heap.size) ∧ Rw B 9 (Lab.fin labr w.heap.size) wr 9 1 kv ks.length (ks.map .string) ∧ Rw B 9 (Lab.fin labr w.heap.size) wr 26 7 lv l.length (flat cs) ∧ isNs B (Lab.fin labr w.heap.size) wr l cs := by
  have m : Mv (fun x => x = 30 ∨ x = 31) wr labr wr (Lab.fin labr w.heap.size) :=
    ⟨rfl, rfl, rfl, Nat.le_refl _, fun _ _ _ => rfl, fun b _ hn => if_neg hn⟩
  refine ⟨⟨h.below.os, h.below.tape, h.below.output, h.below.size, fun x hx _ => h.below.block x hx, fun x hx _ => ?_⟩, ?_, ?_, ?_⟩
  · show (if labr x = 30 ∨ labr x = 31 then (if w.heap.size ≤ x then 9 else labr x) else labr x) = lab x
    rw [if_neg (show ¬ w.heap.size ≤ x by omega), ite_self]
    exact h.lab x hx
  · refine ⟨(h.keys.low hB).1, fun b hb => ?_⟩
    have := h.keys.own_lab b hb
    show (if labr b = 30 ∨ labr b = 31 then (if w.heap.size ≤ b then 9 else labr b) else labr b) = 9
    rw [if_pos (.inr this.1), if_pos this.2.1]
  · refine ⟨(h.list.low hB).1, fun b hb => ?_⟩
    have := h.list.own_lab b hb
    show (if labr b = 30 ∨ labr b = 31 then (if w.heap.size ≤ b then 9 else labr b) else labr b) = 9
    rw [if_pos (.inl this.1), if_pos this.2.1]
  · have := isNs.mv m (by decide) _ _ h.done
    rwa [List.take_length] at this
/-- .. and told: the block of the result is written. -/
theorem NInv.told (h : NInv kd w lab B o kv ks l l.length lv cs wr labr) (hB : B ≤ w.heap.size) (hg : wr.grownBy w1 (some w.heap.size)) :
    ∃ lab', Mv (fun _ => False) w lab w1 lab' ∧ Rw B 9 lab' w1 9 1 kv ks.length (ks.map .string) ∧ Rw B 9 lab' w1 26 7 lv l.length (flat cs) ∧ isNs B lab' w1 l cs := by
  obtain ⟨r1, r2, r3⟩ : (Rw B 9 (Lab.fin labr w.heap.size) wr 9 1 kv ks.length (ks.map .string)) ∧ (Rw B 9 (Lab.fin labr w.heap.size) wr 26 7 lv l.length (flat cs)) ∧ isNs B (Lab.fin labr w.heap.size) wr l cs := (h.finish hB).2
  have m1 := (h.finish hB).1
  have h33 : Lab.fin labr w.heap.size w.heap.size = 33 := by
    have := h.res.2
    unfold Lab.fin
    rw [this, if_neg (by decide)]
  have mm : Mv (· = 33) wr (Lab.fin labr w.heap.size) w1 ((Lab.fin labr w.heap.size).ext wr.heap.size 33) := Mv.grown hg _ 33 (fun x hx => by cases hx; exact h33)
  refine ⟨_, ?_, r1.mv mm (by decide), r2.mv mm (by decide), isNs.mv mm (by decide) _ _ r3⟩
  have hb := h.below.grown hg h.below.size (fun x hx => by cases hx; omega)
  exact ⟨hb.os, hb.tape, hb.output, hb.size, fun x hx _ => hb.block x hx, fun x hx _ => by rw [Lab.ext_lt (Nat.lt_of_lt_of_le hx h.below.size)]; exact m1.lab x hx (fun h => h)⟩
/-- Seven cells are written. -/
theorem set7 {r : Nat} {w : World} {a0 a1 a2 a3 a4 a5 a6 : Value} {t : TypeId} (v0 v1 v2 v3 v4 v5 v6 : Value) (h : w.heap[r]? = some (.cells #[a0, a1, a2, a3, a4, a5, a6] t)) :
    (((((((w.setCell ⟨r, 0, none⟩ v0).setCell ⟨r, 1, none⟩ v1).setCell ⟨r, 2, none⟩ v2).setCell ⟨r, 3, none⟩ v3).setCell ⟨r, 4, none⟩ v4).setCell ⟨r, 5, none⟩ v5).setCell ⟨r, 6, none⟩ v6).heap[r]? = some (.cells #[v0, v1, v2, v3, v4, v5, v6] t) ∧
      w.grownBy (((((((w.setCell ⟨r, 0, none⟩ v0).setCell ⟨r, 1, none⟩ v1).setCell ⟨r, 2, none⟩ v2).setCell ⟨r, 3, none⟩ v3).setCell ⟨r, 4, none⟩ v4).setCell ⟨r, 5, none⟩ v5).setCell ⟨r, 6, none⟩ v6) (some r) :=
  by
  have h0 : (w.setCell ⟨r, 0, none⟩ v0).heap[r]? = some (.cells #[v0, a1, a2, a3, a4, a5, a6] t) := blk_setCell h 0 v0
  have h1 := blk_setCell h0 1 v1
  have h2 := blk_setCell (show _ = some (Obj.cells #[v0, v1, a2, a3, a4, a5, a6] t) from h1) 2 v2
  have h3 := blk_setCell (show _ = some (Obj.cells #[v0, v1, v2, a3, a4, a5, a6] t) from h2) 3 v3
  have h4 := blk_setCell (show _ = some (Obj.cells #[v0, v1, v2, v3, a4, a5, a6] t) from h3) 4 v4
  have h5 := blk_setCell (show _ = some (Obj.cells #[v0, v1, v2, v3, v4, a5, a6] t) from h4) 5 v5
  have h6 := blk_setCell (show _ = some (Obj.cells #[v0, v1, v2, v3, v4, v5, a6] t) from h5) 6 v6
  exact ⟨h6, (((((((grown_setCell _ r 0 v0).trans (grown_setCell _ r 1 v1)).trans (grown_setCell _ r 2 v2)).trans (grown_setCell _ r 3 v3)).trans (grown_setCell _ r 4 v4)).trans (grown_setCell _ r 5 v5)).trans (grown_setCell _ r 6 v6))⟩
/-- What a map reads at the key of its i-th entry. -/
theorem map_look {ℓ b : Nat} {t : List Ent} {w : World} {lab : Lab} (h : Mp ℓ lab w b t) (i : Nat) (x : Ent) (hx : t[i]? = some x) : (Instr.lookup 61 (.map (some b)) (.string x.1) false).run Tryz.prog w = .ok x.2.2 w := by
  have K := Maps.string_keyed (P := Tryz.prog) Tryz.underlying9
  have hm : ((Lit.string x.1.data.toList, DataW.held x.2.2) : Lit × DataW Value) ∈ t.map fun x => ((Lit.string x.1.data.toList, DataW.held x.2.2) : Lit × DataW Value) :=
    List.mem_map.2 ⟨x, List.mem_of_getElem? hx, rfl⟩
  obtain ⟨es, he, hs, hk⟩ := h.1.canon K
  obtain ⟨es', he', hk'⟩ := h.1.keysOf
  simp only [entD, DataW.map.injEq] at he he'
  subst he
  subst he'
  obtain ⟨key, hkey⟩ := hk' _ hm
  obtain ⟨y, rfl, hy, _⟩ := Maps.keyOf_str Tryz.underlying9 hkey
  simp only [Lit.string.injEq] at hy
  subst hy
  have e1 : encStr x.1.data.toList = .string x.1 := by simp [encStr]
  rw [e1] at hkey
  obtain ⟨v, ps, hrun, hR⟩ := h.1.lookup K Tryz.underlying61 (Tryz.zeroValue20 w) (zd := .held .nilIface) (zp := []) rfl hkey
  have hat : (entD t).atKey (.string x.1.data.toList) (.held .nilIface) = .held x.2.2 := WideAt.atKey_mem _ (hk _ hm) (Maps.apart_of_rising hs) hm
  rw [hat] at hR
  simp only [anyR, Option.some.injEq, Prod.mk.injEq, DataW.held.injEq] at hR
  rw [hrun, hR.1]
/-- The keys that a range has collected, sorted: the map's keys as they stand. -/
theorem sorted_keys {ℓ b : Nat} {t : List Ent} {w : World} {lab : Lab} (h : Mp ℓ lab w b t) {left : Lit → Bool} {ss : List (List UInt8)} (hC : Collected (entD t) left ss) (hl : ∀ kl, left kl = false) :
    (ss.mergeSort leB).map encStr = (t.map (·.1)).map .string ∧ ss.length = t.length := by
  have hp := hC.perm h.1 (Maps.string_keyed Tryz.underlying9) Tryz.underlying9 hl
  have e : strKeys (entD t) = t.map fun x => x.1.data.toList := by simp [strKeys, entD, strOf]
  rw [e] at hp
  refine ⟨?_, by simpa using hp.length_eq⟩
  rw [mergeSort_of_perm hp, sort_keys h, List.map_map, List.map_map]
  refine List.map_congr_left fun x _ => ?_
  simp [encStr]
end
theorem own_slice {base e size n : Nat} {w : World} {v : Value} {xs : List Value} (h : w.ownsRow base e size v n xs) : ∃ a cap, v = .slice a n cap := by
  obtain ⟨_, ⟨h0, hn⟩ | ⟨g, cap, cur, hv, _⟩⟩ := h
  · exact ⟨none, 0, by rw [h0, hn]⟩
  · exact ⟨_, _, hv⟩
theorem own_one {base e size n : Nat} {w : World} {v : Value} {xs : List Value} (h : w.ownsRow base e size v n xs) : v.oneCell' = true := by
  obtain ⟨a, cap, rfl⟩ := own_slice h
  rfl
/-- A Node's cells are seven. -/
theorem isN.shape {B : Nat} {lab : Lab} {w : World} : ∀ {j : JV} {c : Array Value}, isN B lab w j c → ∃ k n f b s kv lv, c = ndC k n f b s kv lv ∧ kv.oneCell' = true ∧ lv.oneCell' = true
  | .int _, _, h => ⟨_, _, _, _, _, _, _, h, rfl, rfl⟩
  | .num _, _, h => ⟨_, _, _, _, _, _, _, h, rfl, rfl⟩
  | .tr _, _, h => ⟨_, _, _, _, _, _, _, h, rfl, rfl⟩
  | .txt _, _, h => ⟨_, _, _, _, _, _, _, h, rfl, rfl⟩
  | .arr _, _, h => by
    simp only [isN] at h
    obtain ⟨_, _, h, hl, _⟩ := h
    exact ⟨_, _, _, _, _, _, _, h, rfl, own_one hl.1⟩
  | .map _ _, _, h => by
    simp only [isN] at h
    obtain ⟨_, _, _, h, hk, hl, _⟩ := h
    exact ⟨_, _, _, _, _, _, _, h, own_one hk.1, own_one hl.1⟩
theorem nd_one {k n : Int} {f : Nat} {b : Bool} {s : ByteArray} {kv lv : Value} (h1 : kv.oneCell' = true) (h2 : lv.oneCell' = true) : ∀ u ∈ [Value.int .i64 k, .int .i64 n, .float .f64 f, .bool b, .string s, kv, lv], u.oneCell' = true := by
  intro u hu
  simp only [List.mem_cons, List.not_mem_nil, or_false] at hu
  rcases hu with rfl | rfl | rfl | rfl | rfl | rfl | rfl
  · rfl
  · rfl
  · rfl
  · rfl
  · rfl
  · exact h1
  · exact h2
theorem info26z : (Tryz.prog.info? 26).map (fun i => (i.zero, i.size, i.bytes)) = some (some (.agg (ndC 0 0 0 false { data := #[] } nilS nilS)), 7, 96) := by kernel_rfl
section
variable {kd : Int} {w : World} {lab : Lab} {B o : Nat} {kv : Value} {ks : List ByteArray} {l : List JV} {k : Nat} {lv : Value} {cs : List (Array Value)} {wr w1 : World} {labr lab1 : Lab} {M : Nat → Prop} {b : Nat} {t : List Ent}
/-- What a round reads. -/
structure NB (kd : Int) (B0 o : Nat) (kv : Value) (ks : List ByteArray) (lv : Value) (b : Nat) (t : List Ent) (wr : World) (labr : Lab) : Prop where
  out : Cl 32 labr wr o (ndC kd 0 0 false { data := #[] } kv lv) 26
  keys : Rw B0 31 labr wr 9 1 kv ks.length (ks.map .string)
  mp : Mp 6 labr wr b t
theorem NInv.nb (h : NInv kd w lab B o kv ks l k lv cs wr labr) (hm : Mp 6 lab w b t) : NB kd w.heap.size o kv ks lv b t wr labr := ⟨h.out, h.keys, hm.mv h.toMv (fun h => h)⟩
theorem NB.mv {B0 : Nat} (h : NB kd B0 o kv ks lv b t wr labr) (m : Mv M wr labr w1 lab1) (h1 : ¬ M 32) (h2 : ¬ M 31) (h3 : ¬ M 6) : NB kd B0 o kv ks lv b t w1 lab1 := ⟨h.out.mv m h1, h.keys.mv m h2, h.mp.mv m h3⟩
theorem NB.reads {B0 g cap i : Nat} (h : NB kd B0 o (.slice (some ⟨g, 0, none⟩) ks.length cap) ks lv b t wr labr) (hk : ks = t.map (·.1)) {x : Ent} (hx : t[i]? = some x) :
    wr.cell? ⟨o, 6, none⟩ = some lv ∧ wr.frozen? ⟨o, 6, none⟩ = false ∧ wr.cell? ⟨o, 5, none⟩ = some (.slice (some ⟨g, 0, none⟩) ks.length cap) ∧ wr.cell? ⟨g, i, none⟩ = some (.string x.1) ∧
      (Instr.lookup 61 (.map (some b)) (.string x.1) false).run Tryz.prog wr = .ok x.2.2 wr := by
  have hi : i < t.length := (List.getElem?_eq_some_iff.1 hx).1
  refine ⟨blk_cell h.out.1 6, blk_free h.out.1 6, blk_cell h.out.1 5, ?_, map_look h.mp i x hx⟩
  rw [h.keys.1.cellAt i (by rw [hk]; simpa using hi), hk]
  simp [hx]
/-- The rows at the start. -/
theorem NInv.start (h1 : w1.heap[w.heap.size]? = some (.cells (ndC 0 0 0 false { data := #[] } nilS nilS) 26)) (h2 : w1.heap[w.heap.size + 1]? = some (.cells (ndC kd 0 0 false { data := #[] } kv nilS) 26))
    (hrow : w1.ownsRow w.heap.size 9 1 kv ks.length (ks.map .string)) (hb : Below w.heap.size w w1) (lab : Lab) : ∃ labr, NInv kd w lab B (w.heap.size + 1) kv ks l 0 nilS [] w1 labr := by
  have n1 : kv.ownBlock ≠ some w.heap.size := own_ne_blk hrow h1 (by decide)
  have n2 : kv.ownBlock ≠ some (w.heap.size + 1) := own_ne_blk hrow h2 (by decide)
  refine ⟨fun x => if x < w.heap.size then lab x else if x = w.heap.size then 33 else if x = w.heap.size + 1 then 32 else 31, ?_⟩
  exact {
    out := ⟨h2, by dsimp only; rw [if_neg (by omega), if_neg (by omega), if_pos rfl]⟩
    own := by omega
    res := ⟨h1, by dsimp only; rw [if_neg (by omega), if_pos rfl]⟩
    keys := ⟨hrow, fun x hx => by
      have hl := (hrow.lt x hx).1
      dsimp only
      rw [if_neg (by omega), if_neg (fun e => n1 (by rw [hx, e])), if_neg (fun e => n2 (by rw [hx, e]))]⟩
    list := ⟨World.ownsRow_nil _ _ _ _, fun x hx => by cases hx⟩
    done := by simp [isNs]
    below := hb
    lab := fun x hx => if_pos hx }
end
end Go.Cf
