/-
  A region that draws its order and makes values, one a slot: what each value is good for, whatever the order.
-/
import Derived.Test.YtackodbeohaidaaGreatDoorAny
import Derived.Test.YtackodbeohaidaaGreatDoorM
namespace Go.Cf
section
variable {P : Program} {Q : Exit → Act → World → Prop}
/-- What stands before an operation: the slots of those that came up hold what they should; slots of 'keep' are as at the start. -/
structure BldAt (C : Nat → Value → Lab → World → Prop) (dst : Nat → Nat) (keep : List (Nat × Value)) (n : Nat) (w0 : World) (lab0 : Lab) (len : Nat) (L : Array Bool) (a : Act) (lab : Lab) (w : World) : Prop where
  defers : a.defers = []
  size : a.tmps.size = n
  keep : ∀ p ∈ keep, a.tmps.getD p.1 undef = p.2
  mv : Mv (fun _ => False) w0 lab0 w lab
  got : ∀ k, k < len → L.getD k false = true → C k (a.tmps.getD (dst k) undef) lab w
/-- What an operation does. -/
def Does (P : Program) (o : Oper) (a : Act) (lab : Lab) (w : World) (R : Value → Lab → World → Prop) : Prop :=
  (∃ v w' lab', (execOp a.eval o).run P w = .ok (.value v) w' ∧ Mv (fun _ => False) w lab w' lab' ∧ R v lab' w') ∨
  (∃ f args, (execOp a.eval o).run P w = .ok (.enter f args) w ∧ Calls P f args w fun e w' => ∃ v lab', e = .returned v ∧ Mv (fun _ => False) w lab w' lab' ∧ R v lab' w')
theorem put_getD {a : Act} {d k : Nat} {v : Value} (hd : d < a.tmps.size) : (a.put (some d) v).tmps.getD k undef = if k = d then v else a.tmps.getD k undef := by
  simp only [Act.put, Array.getD_eq_getD_getElem?]
  by_cases h : k = d
  · subst h; simp [hd]
  · rw [Array.getElem?_setIfInBounds_ne (fun e => h e.symm), if_neg h]
theorem wp_region_bld {id : Nat} {l : List Oper} {a : Act} {w : World} (C : Nat → Value → Lab → World → Prop) (dst : Nat → Nat) (keep : List (Nat × Value)) (lab : Lab) (hm : P.follows .mixedOrders = true)
    (hdep : (List.range l.length).all (fun i => ((l[i]?).map fun o => o.after.all fun e => !Region.binds .any e || decide (e.on < i)).getD true) = true)
    (hdst : ∀ i o, l[i]? = some o → o.dst = some (dst i) ∧ o.guard = none ∧ dst i < a.tmps.size ∧ (∀ p ∈ keep, p.1 ≠ dst i) ∧ ∀ k, k < l.length → dst k = dst i → k = i)
    (hd0 : a.defers = []) (hkeep : ∀ p ∈ keep, a.tmps.getD p.1 undef = p.2)
    (hC : ∀ k v lab w lab' w', C k v lab w → Mv (fun _ => False) w lab w' lab' → C k v lab' w')
    (hstep : ∀ L a' lab' w' i o, l[i]? = some o → (∀ e ∈ o.after, Region.binds .any e = true → L.getD e.on false = true) → BldAt C dst keep a.tmps.size w lab l.length L a' lab' w' → Does P o a' lab' w' (C i))
    (hend : ∀ a' lab' w', (∀ k, k < l.length → C k (a'.tmps.getD (dst k) undef) lab' w') → a'.defers = [] → Mv (fun _ => False) w lab w' lab' → Q .normal a' w') : (Code.region id l.toArray true).wp P Q a w := by
  refine wp_region_inv (fun L a' w' => ∃ lab', BldAt C dst keep a.tmps.size w lab l.length L a' lab' w') hm hdep ?_ ?_ ?_
  · refine ⟨lab, hd0, rfl, hkeep, ⟨rfl, rfl, rfl, Nat.le_refl _, fun _ _ _ => rfl, fun _ _ _ => rfl⟩, fun k hk h => ?_⟩
    simp [Array.getD] at h
  · rintro L a' w' i o hL ho hf hall ⟨lab', hb⟩
    have hs := hstep L a' lab' w' i o ho hall hb
    obtain ⟨h1, h2, h3, h4, h5⟩ := hdst i o ho
    have hi : i < l.length := (List.getElem?_eq_some_iff.1 ho).1
    have key : ∀ v lab2 w2, Mv (fun _ => False) w' lab' w2 lab2 → C i v lab2 w2 → ∃ lab3, BldAt C dst keep a.tmps.size w lab l.length (L.setIfInBounds i true) (a'.put o.dst v) lab3 w2 := by
      intro v lab2 w2 m hc
      rw [h1]
      have hsz : dst i < a'.tmps.size := by rw [hb.size]; exact h3
      refine ⟨lab2, hb.defers, by simpa [Act.put] using hb.size, fun p hp => ?_, hb.mv.trans m (fun _ h => h), fun k hk hlk => ?_⟩
      · rw [put_getD hsz, if_neg (h4 p hp)]
        exact hb.keep p hp
      · rw [put_getD hsz]
        by_cases hki : k = i
        · subst hki; rw [if_pos rfl]; exact hc
        · rw [if_neg (fun e => hki (h5 k hk e))]
          refine hC k _ _ _ _ _ (hb.got k hk ?_) m
          rw [Array.getD_eq_getD_getElem?, Array.getElem?_setIfInBounds_ne (fun e => hki e.symm), ← Array.getD_eq_getD_getElem?] at hlk
          exact hlk
    have hw : Region.wanted o (yielded l.toArray a'.tmps) = true := by simp [Region.wanted, h2]
    unfold wpOp
    simp only [List.getElem?_toArray, ho, hw, if_true]
    left
    unfold Oper.wp
    rcases hs with ⟨v, w2, lab2, hrun, m, hc⟩ | ⟨f, args, hrun, hcalls⟩
    · rw [hrun]
      exact key v lab2 w2 m hc
    · rw [hrun, Oper.upon_enter]
      refine hcalls.mono ?_
      rintro e w2 ⟨v, lab2, rfl, m, hc⟩
      exact key v lab2 w2 m hc
  · rintro L a' w' hL hall ⟨lab', hb⟩
    exact hend a' lab' w' (fun k hk => hb.got k hk (hall k hk)) hb.defers hb.mv
end
end Go.Cf
