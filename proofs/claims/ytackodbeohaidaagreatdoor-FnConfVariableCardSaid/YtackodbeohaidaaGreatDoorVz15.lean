/-
  Texts joined: Vf.
-/
import Derived.Test.YtackodbeohaidaaGreatDoorVz13
/-
  Two structs are made in a region that draws its order: the state within it.
-/
namespace Go.Cf
open Go.RowKit Go.Conc Go.Proofs
abbrev L0 : Lab := fun _ => 0
abbrev TM (x : Nat) : Prop := x = 61 ∨ x = 62
/-- What the plain slots hold. -/
def v12 (s9 gl cl : Nat) (X Y : Array Value) : Nat → Value
  | 0 => .pointer (some ⟨s9, 6, none⟩)
  | 1 => .slice (some ⟨gl, 0, none⟩) 4 cl
  | 2 => .pointer (some ⟨gl, 14, none⟩)
  | 3 => .agg X
  | 4 => .pointer (some ⟨s9, 6, none⟩)
  | 5 => .slice (some ⟨gl, 0, none⟩) 4 cl
  | 6 => .pointer (some ⟨gl, 21, none⟩)
  | _ => .agg Y
def zN : Array Value := #[.int .i64 0, .int .i64 0, .float .f64 0, .bool false, .string { data := #[] }, .slice none 0 0, .slice none 0 0]
structure R12 (w0 : World) (s9 gl cl : Nat) (X Y : Array Value) (t0 : Array Value) (L : Array Bool) (a : Act) (lab : Lab) (w : World) : Prop where
  defers : a.defers = []
  size : a.tmps.size = t0.size
  keep : ∀ j, ¬ (79 ≤ j ∧ j ≤ 86) → j ≠ 11 → j ≠ 12 → a.tmps.getD j undef = t0.getD j undef
  mv : Mv TM w0 L0 w lab
  got : ∀ i, i < 8 → L.getD i false = true → a.tmps.getD (79 + i) undef = v12 s9 gl cl X Y i
  g8 : L.getD 8 false = true → ∃ g, a.tmps.getD 11 undef = .pointer (some ⟨g, 0, none⟩) ∧ Cl 61 lab w g (if L.getD 10 false = true then X else zN) 26
  g9 : L.getD 9 false = true → ∃ g, a.tmps.getD 12 undef = .pointer (some ⟨g, 0, none⟩) ∧ Cl 62 lab w g (if L.getD 11 false = true then Y else zN) 26
theorem getD_set3 (L : Array Bool) (i j : Nat) (hi : i < L.size) : (L.setIfInBounds i true).getD j false = if j = i then true else L.getD j false := by
  rw [Array.getD_eq_getD_getElem?, Array.getD_eq_getD_getElem?]
  by_cases h : j = i
  · subst h
    rw [if_pos rfl, Array.getElem?_setIfInBounds_self_of_lt hi]
    rfl
  · rw [if_neg h, Array.getElem?_setIfInBounds_ne (fun e => h e.symm)]
theorem Mv.setRow {M : Nat → Prop} (w : World) (lab : Lab) (g : Nat) (cs : Array Value) (hM : M (lab g)) : Mv M w lab (w.setRow g cs) lab := by
  refine ⟨rfl, rfl, rfl, by rw [size_setRow]; exact Nat.le_refl _, fun k hk hn => ?_, fun _ _ _ => rfl⟩
  have hne : g ≠ k := fun e => hn (by rw [← e]; exact hM)
  unfold World.setRow
  simp only [Array.getElem?_modify, if_neg hne]
theorem Cl.setRow {lab : Lab} {w : World} {ℓ g : Nat} {cs cs' : Array Value} {t : TypeId} (h : Cl ℓ lab w g cs t) : Cl ℓ lab (w.setRow g cs') g cs' t := ⟨setRow_heap w g cs cs' t (0, 0) h.1, h.2⟩
theorem Mv.cell0 {M : Nat → Prop} {w w1 : World} {lab : Lab} {a : Addr} {v : Value} (m : Mv M w L0 w1 lab) (h0 : ¬ M 0) (h : w.cell? a = some v) : w1.cell? a = some v := by
  have hb := m.block a.block (World.block_lt_of_cell? w _ h) h0
  unfold World.cell? at h ⊢
  rw [hb]
  exact h
section
variable {lab lab2 : Lab} {w0 w w2 : World} {s9 gl cl : Nat} {X Y : Array Value} {t0 : Array Value} {L : Array Bool} {a : Act}
theorem R12.plain (h : R12 w0 s9 gl cl X Y t0 L a lab w) (hL : L.size = 12) (ht : 90 ≤ t0.size) (i : Nat) (hi : i < 8) :
    R12 w0 s9 gl cl X Y t0 (L.setIfInBounds i true) (a.put (some (79 + i)) (v12 s9 gl cl X Y i)) lab w := by
  have hs : 79 + i < a.tmps.size := by rw [h.size]; omega
  have hg : ∀ j, (L.setIfInBounds i true).getD j false = if j = i then true else L.getD j false := fun j => getD_set3 L i j (by omega)
  have hne : ∀ j, j ≠ i → (L.setIfInBounds i true).getD j false = L.getD j false := fun j h => by rw [hg, if_neg h]
  have hp : ∀ k, (a.put (some (79 + i)) (v12 s9 gl cl X Y i)).tmps.getD k undef = if k = 79 + i then v12 s9 gl cl X Y i else a.tmps.getD k undef := fun k => put_getD hs
  refine ⟨h.defers, by simpa [Act.put] using h.size, fun j hj h1 h2 => ?_, h.mv, fun j hj hlj => ?_, ?_, ?_⟩
  · rw [hp, if_neg (by omega)]; exact h.keep j hj h1 h2
  · rw [hp]
    by_cases e : j = i
    · subst e; rw [if_pos rfl]
    · rw [if_neg (by omega)]
      rw [hg, if_neg e] at hlj
      exact h.got j hj hlj
  · rw [hne 8 (by omega), hne 10 (by omega), hp, if_neg (show ¬ 11 = 79 + i by omega)]; exact h.g8
  · rw [hne 9 (by omega), hne 11 (by omega), hp, if_neg (show ¬ 12 = 79 + i by omega)]; exact h.g9
theorem R12.alloc8 (h : R12 w0 s9 gl cl X Y t0 L a lab w) (hL : L.size = 12) (ht : 90 ≤ t0.size) (h10 : L.getD 10 false = false) :
    R12 w0 s9 gl cl X Y t0 (L.setIfInBounds 8 true) (a.put (some 11) (.pointer (some ⟨w.heap.size, 0, none⟩))) (lab.ext w.heap.size 61) (w.alloc (.cells zN 26)) := by
  have hs : 11 < a.tmps.size := by rw [h.size]; omega
  have hg : ∀ j, (L.setIfInBounds 8 true).getD j false = if j = 8 then true else L.getD j false := fun j => getD_set3 L 8 j (by omega)
  have hne : ∀ j, j ≠ 8 → (L.setIfInBounds 8 true).getD j false = L.getD j false := fun j h => by rw [hg, if_neg h]
  have hp : ∀ k, (a.put (some 11) (.pointer (some ⟨w.heap.size, 0, none⟩))).tmps.getD k undef = if k = 11 then .pointer (some ⟨w.heap.size, 0, none⟩) else a.tmps.getD k undef := fun k => put_getD hs
  have m : Mv (fun _ => False) w lab (w.alloc (.cells zN 26)) (lab.ext w.heap.size 61) := Mv.alloc _ _ _ _
  refine ⟨h.defers, by simpa [Act.put] using h.size, fun j hj h1 h2 => ?_, h.mv.trans m (fun _ h => h.elim), fun j hj hlj => ?_, ?_, ?_⟩
  · rw [hp, if_neg h1]; exact h.keep j hj h1 h2
  · rw [hp, if_neg (by omega)]
    rw [hg, if_neg (by omega)] at hlj
    exact h.got j hj hlj
  · intro _
    refine ⟨w.heap.size, by rw [hp, if_pos rfl], ?_⟩
    rw [hne 10 (by omega), if_neg (by rw [h10]; decide)]
    exact Cl.alloc _ _ _ _ _
  · rw [hne 9 (by omega), hne 11 (by omega), hp, if_neg (show ¬ 12 = 11 by omega)]
    intro e
    obtain ⟨g, e1, e2⟩ := h.g9 e
    exact ⟨g, e1, e2.mv m (fun h => h)⟩
theorem R12.alloc9 (h : R12 w0 s9 gl cl X Y t0 L a lab w) (hL : L.size = 12) (ht : 90 ≤ t0.size) (h11 : L.getD 11 false = false) :
    R12 w0 s9 gl cl X Y t0 (L.setIfInBounds 9 true) (a.put (some 12) (.pointer (some ⟨w.heap.size, 0, none⟩))) (lab.ext w.heap.size 62) (w.alloc (.cells zN 26)) := by
  have hs : 12 < a.tmps.size := by rw [h.size]; omega
  have hg : ∀ j, (L.setIfInBounds 9 true).getD j false = if j = 9 then true else L.getD j false := fun j => getD_set3 L 9 j (by omega)
  have hne : ∀ j, j ≠ 9 → (L.setIfInBounds 9 true).getD j false = L.getD j false := fun j h => by rw [hg, if_neg h]
  have hp : ∀ k, (a.put (some 12) (.pointer (some ⟨w.heap.size, 0, none⟩))).tmps.getD k undef = if k = 12 then .pointer (some ⟨w.heap.size, 0, none⟩) else a.tmps.getD k undef := fun k => put_getD hs
  have m : Mv (fun _ => False) w lab (w.alloc (.cells zN 26)) (lab.ext w.heap.size 62) := Mv.alloc _ _ _ _
  refine ⟨h.defers, by simpa [Act.put] using h.size, fun j hj h1 h2 => ?_, h.mv.trans m (fun _ h => h.elim), fun j hj hlj => ?_, ?_, ?_⟩
  · rw [hp, if_neg h2]; exact h.keep j hj h1 h2
  · rw [hp, if_neg (by omega)]
    rw [hg, if_neg (by omega)] at hlj
    exact h.got j hj hlj
  · rw [hne 8 (by omega), hne 10 (by omega), hp, if_neg (show ¬ 11 = 12 by omega)]
    intro e
    obtain ⟨g, e1, e2⟩ := h.g8 e
    exact ⟨g, e1, e2.mv m (fun h => h)⟩
  · intro _
    refine ⟨w.heap.size, by rw [hp, if_pos rfl], ?_⟩
    rw [hne 11 (by omega), if_neg (by rw [h11]; decide)]
    exact Cl.alloc _ _ _ _ _
theorem R12.store10 (h : R12 w0 s9 gl cl X Y t0 L a lab w) (hL : L.size = 12) {g : Nat} (h8 : L.getD 8 false = true) (he : a.tmps.getD 11 undef = .pointer (some ⟨g, 0, none⟩)) :
    R12 w0 s9 gl cl X Y t0 (L.setIfInBounds 10 true) (a.put none undef) lab (w.setRow g X) := by
  have hg : ∀ j, (L.setIfInBounds 10 true).getD j false = if j = 10 then true else L.getD j false := fun j => getD_set3 L 10 j (by omega)
  have hne : ∀ j, j ≠ 10 → (L.setIfInBounds 10 true).getD j false = L.getD j false := fun j h => by rw [hg, if_neg h]
  obtain ⟨g', e1, hc⟩ := h.g8 h8
  obtain rfl : g' = g := by rw [e1] at he; simpa using he
  have m : Mv (· = 61) w lab (w.setRow g' X) lab := Mv.setRow _ _ _ _ hc.2
  refine ⟨h.defers, h.size, h.keep, h.mv.trans m (fun _ h => .inl h), fun j hj hlj => ?_, ?_, ?_⟩
  · rw [hg, if_neg (by omega)] at hlj
    exact h.got j hj hlj
  · intro _
    refine ⟨g', e1, ?_⟩
    rw [hg, if_pos rfl, if_pos rfl]
    exact hc.setRow
  · rw [hne 9 (by omega), hne 11 (by omega)]
    intro e
    obtain ⟨g, e1, e2⟩ := h.g9 e
    exact ⟨g, e1, e2.mv m (by decide)⟩
theorem R12.store11 (h : R12 w0 s9 gl cl X Y t0 L a lab w) (hL : L.size = 12) {g : Nat} (h9 : L.getD 9 false = true) (he : a.tmps.getD 12 undef = .pointer (some ⟨g, 0, none⟩)) :
    R12 w0 s9 gl cl X Y t0 (L.setIfInBounds 11 true) (a.put none undef) lab (w.setRow g Y) := by
  have hg : ∀ j, (L.setIfInBounds 11 true).getD j false = if j = 11 then true else L.getD j false := fun j => getD_set3 L 11 j (by omega)
  have hne : ∀ j, j ≠ 11 → (L.setIfInBounds 11 true).getD j false = L.getD j false := fun j h => by rw [hg, if_neg h]
  obtain ⟨g', e1, hc⟩ := h.g9 h9
  obtain rfl : g' = g := by rw [e1] at he; simpa using he
  have m : Mv (· = 62) w lab (w.setRow g' Y) lab := Mv.setRow _ _ _ _ hc.2
  refine ⟨h.defers, h.size, h.keep, h.mv.trans m (fun _ h => .inr h), fun j hj hlj => ?_, ?_, ?_⟩
  · rw [hg, if_neg (by omega)] at hlj
    exact h.got j hj hlj
  · rw [hne 8 (by omega), hne 10 (by omega)]
    intro e
    obtain ⟨g, e1, e2⟩ := h.g8 e
    exact ⟨g, e1, e2.mv m (by decide)⟩
  · intro _
    refine ⟨g', e1, ?_⟩
    rw [hg, if_pos rfl, if_pos rfl]
    exact hc.setRow
theorem two_region {P : Program} {Q : Exit → Act → World → Prop} {id : Nat} {l : List Oper} (s9 gl cl : Nat) (X Y : Array Value) (hm : P.follows .mixedOrders = true)
    (hdep : (List.range l.length).all (fun i => ((l[i]?).map fun o => o.after.all fun e => !Region.binds .any e || decide (e.on < i)).getD true) = true)
    (hl : l.length = 12) (hd : a.defers = []) (ht : 90 ≤ a.tmps.size)
    (hstep : ∀ L a' lab' w' i o, L.size = 12 → l[i]? = some o → L.getD i false = false → (∀ e ∈ o.after, Region.binds .any e = true → L.getD e.on false = true) → R12 w s9 gl cl X Y a.tmps L a' lab' w' →
      (∀ k o, l[k]? = some o → L.getD k false = true → ∀ e ∈ o.after, Region.binds .any e = true → L.getD e.on false = true) →
      wpOp P l.toArray Q i (fun a2 w2 => ∃ lab2, R12 w s9 gl cl X Y a.tmps (L.setIfInBounds i true) a2 lab2 w2) a' w')
    (hend : ∀ (u : List Value) g1 g2 w', u.length = 8 → w'.heap[g1]? = some (.cells X 26 (0, 0)) → w'.heap[g2]? = some (.cells Y 26 (0, 0)) → Below w.heap.size w w' →
      Q .normal ⟨((((a.tmps.setIfInBounds 11 (.pointer (some ⟨g1, 0, none⟩))).setIfInBounds 12 (.pointer (some ⟨g2, 0, none⟩))).toList.take 79) ++ (u ++ (((a.tmps.setIfInBounds 11 (.pointer (some ⟨g1, 0, none⟩))).setIfInBounds 12 (.pointer (some ⟨g2, 0, none⟩))).toList.drop 87))).toArray, []⟩ w') :
    (Code.region id l.toArray true).wp P Q a w := by
  have hrep : ∀ i, (Array.replicate l.length false).getD i false = false := fun i => by
    rw [Array.getD_eq_getD_getElem?, Array.getElem?_replicate]
    split <;> rfl
  refine wp_region_inv (fun L a' w' => L.size = 12 ∧ (∀ k o, l[k]? = some o → L.getD k false = true → ∀ e ∈ o.after, Region.binds .any e = true → L.getD e.on false = true) ∧ ∃ lab', R12 w s9 gl cl X Y a.tmps L a' lab' w') hm hdep ?_ ?_ ?_
  · refine ⟨by rw [Array.size_replicate, hl], fun k o _ h => (by rw [hrep] at h; cases h), L0, hd, rfl, fun _ _ _ _ => rfl, ⟨rfl, rfl, rfl, Nat.le_refl _, fun _ _ _ => rfl, fun _ _ _ => rfl⟩, fun i _ h => ?_, fun h => ?_, fun h => ?_⟩
    · rw [hrep] at h; cases h
    · rw [hrep] at h; cases h
    · rw [hrep] at h; cases h
  · rintro L a' w' i o hL ho hf hall ⟨_, hcl, lab', hr⟩
    rw [hl] at hL
    have hi : i < 12 := by rw [← hl]; exact (List.getElem?_eq_some_iff.1 ho).1
    have hf2 : L.getD i false = false := by
      rw [Array.getD_eq_getD_getElem?] at hf ⊢
      cases hc : L[i]? with
      | none => rfl
      | some x => rw [hc] at hf; exact hf
    have := hstep L a' lab' w' i o hL ho hf2 hall hr hcl
    have hg := fun j => getD_set3 L i j (by omega)
    refine wpOp_mono (fun a2 w2 h => ⟨by simpa using hL, fun k o' ho' hk' e he hbe => ?_, h⟩) this
    rw [hg]
    split
    · rfl
    · rw [hg] at hk'
      split at hk'
      · next e2 =>
        subst e2
        rw [ho] at ho'
        cases ho'
        exact hall e he hbe
      · exact hcl k o' ho' hk' e he hbe
  · rintro L a' w' hL hall ⟨_, _, lab', hr⟩
    rw [hl] at hall
    obtain ⟨g1, e1, c1⟩ := hr.g8 (hall 8 (by omega))
    obtain ⟨g2, e2, c2⟩ := hr.g9 (hall 9 (by omega))
    rw [if_pos (hall 10 (by omega))] at c1
    rw [if_pos (hall 11 (by omega))] at c2
    obtain ⟨u, hu, htt⟩ := frame_range a'.tmps ((a.tmps.setIfInBounds 11 (.pointer (some ⟨g1, 0, none⟩))).setIfInBounds 12 (.pointer (some ⟨g2, 0, none⟩))) 79 8 (by simpa using hr.size) (by simp; omega) (fun j hj => by
      by_cases h12 : j = 12
      · subst h12
        rw [e2, Array.getD_eq_getD_getElem?, Array.getElem?_setIfInBounds_self_of_lt (by simp; omega)]
        rfl
      · by_cases h11 : j = 11
        · subst h11
          rw [e1, Array.getD_eq_getD_getElem?, Array.getElem?_setIfInBounds_ne (by omega), Array.getElem?_setIfInBounds_self_of_lt (by omega)]
          rfl
        · rw [hr.keep j (by omega) h11 h12, Array.getD_eq_getD_getElem?, Array.getD_eq_getD_getElem?, Array.getElem?_setIfInBounds_ne (by omega), Array.getElem?_setIfInBounds_ne (by omega)])
    have := hend u g1 g2 w' hu c1.1 c2.1 (hr.mv.toBelow (Nat.le_refl _) (fun _ _ h => by rcases h with h | h <;> cases h))
    have hdf := hr.defers
    obtain ⟨t, d⟩ := a'
    simp only at hdf htt this
    subst hdf
    rw [htt]
    exact this
end
end Go.Cf
