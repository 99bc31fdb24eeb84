/-
  A region that draws its order, by an invariant over what has come up: one proof an operation, whatever the order. No program in sight.
-/
import Derived.Orders
namespace Go.Cf
section
variable {P : Program} {ops : Array Oper} {Q : Exit → Act → World → Prop} {md : Region.Mode}
theorem any_listed {l : Array Bool} {i : Nat} (hi : i < l.size) : l.getD i true = l.getD i false := by
  simp [Array.getD, hi]
theorem all_of_ready (hdep : ∀ i o, ops[i]? = some o → ∀ e ∈ o.after, Region.binds md e = true → e.on < i) {l : Array Bool} (hs : l.size = ops.size) (hr : Region.ready md ops l = []) : ∀ i, i < ops.size → l.getD i false = true := by
  intro i
  induction i using Nat.strongRecOn with
  | _ i ih =>
    intro hi
    cases hc : l.getD i false with
    | true => rfl
    | false =>
      have hm : i ∈ Region.ready md ops l := by
        rw [mem_ready]
        refine ⟨by rw [any_listed (by omega)]; exact hc, ops[i], by simp [hi], fun e he hb => ?_⟩
        have := hdep i ops[i] (by simp [hi]) e he hb
        exact ih e.on this (by omega)
      rw [hr] at hm
      cases hm
theorem count_set {l : Array Bool} {i : Nat} (hi : i < l.size) (hf : l.getD i true = false) : (l.setIfInBounds i true).toList.countP (fun b => !b) + 1 = l.toList.countP (fun b => !b) := by
  have hi' : i < l.toList.length := by simpa using hi
  have hv : l.toList[i] = false := by
    have : l.getD i true = l[i] := by simp [Array.getD, hi]
    rw [this] at hf
    simpa using hf
  have hpos : 0 < l.toList.countP (fun b => !b) := by
    rw [List.countP_pos_iff]
    exact ⟨l.toList[i], List.getElem_mem hi', by rw [hv]; rfl⟩
  rw [Array.toList_setIfInBounds, List.countP_set hi', hv]
  simp only [Bool.not_true, Bool.not_false, if_true, Bool.false_eq_true, if_false]
  omega
theorem wpAny_inv (I : Array Bool → Act → World → Prop) (hdep : ∀ i o, ops[i]? = some o → ∀ e ∈ o.after, Region.binds md e = true → e.on < i)
    (hstep : ∀ l a w i o, l.size = ops.size → ops[i]? = some o → l.getD i true = false → (∀ e ∈ o.after, Region.binds md e = true → l.getD e.on false = true) → I l a w → wpOp P ops Q i (I (l.setIfInBounds i true)) a w)
    (hend : ∀ l a w, l.size = ops.size → (∀ i, i < ops.size → l.getD i false = true) → I l a w → Q .normal a w) :
    ∀ (fuel : Nat) (l : Array Bool) (a : Act) (w : World), l.size = ops.size → l.toList.countP (fun b => !b) ≤ fuel → I l a w → wpAny P md ops Q fuel l a w
  | 0, l, a, w, hs, hc, hI => by
    have hall : ∀ i, i < ops.size → l.getD i true = true := by
      intro i hi
      cases h : l.getD i true with
      | true => rfl
      | false => have := count_set (by omega) h; omega
    have hr : Region.ready md ops l = [] := by
      rw [List.eq_nil_iff_forall_not_mem]
      intro i hi
      obtain ⟨h0, o, ho, _⟩ := mem_ready.1 hi
      have := hall i (Array.getElem?_eq_some_iff.1 ho).1
      rw [h0] at this
      cases this
    exact ⟨hr, hend l a w hs (fun i hi => by rw [← any_listed (by omega)]; exact hall i hi) hI⟩
  | fuel + 1, l, a, w, hs, hc, hI => by
    refine ⟨fun hr => hend l a w hs (all_of_ready hdep hs hr) hI, fun i hi => ?_⟩
    obtain ⟨h0, o, ho, hall⟩ := mem_ready.1 hi
    have hlt : i < l.size := by rw [hs]; exact (Array.getElem?_eq_some_iff.1 ho).1
    have hcs := count_set hlt h0
    refine wpOp_mono (fun a' w' h => ?_) (hstep l a w i o hs ho h0 hall hI)
    exact wpAny_inv I hdep hstep hend fuel _ a' w' (by simpa using hs) (by omega) h
/-- The region, by its invariant. -/
theorem wp_region_inv {id : Nat} {l : List Oper} {a : Act} {w : World} (I : Array Bool → Act → World → Prop) (hm : P.follows .mixedOrders = true)
    (hdep : (List.range l.length).all (fun i => ((l[i]?).map fun o => o.after.all fun e => !Region.binds .any e || decide (e.on < i)).getD true) = true)
    (h0 : I (Array.replicate l.length false) a { w with drawn := w.drawn + 1 })
    (hstep : ∀ L a w i o, L.size = l.length → l[i]? = some o → L.getD i true = false → (∀ e ∈ o.after, Region.binds .any e = true → L.getD e.on false = true) → I L a w → wpOp P l.toArray Q i (I (L.setIfInBounds i true)) a w)
    (hend : ∀ L a w, L.size = l.length → (∀ i, i < l.length → L.getD i false = true) → I L a w → Q .normal a w) : (Code.region id l.toArray true).wp P Q a w := by
  refine wp_region_any hm ?_
  refine wpAny_inv (ops := l.toArray) (md := .any) I ?_ ?_ ?_ _ _ _ _ (by simp) ?_ (by simpa using h0)
  · intro i o ho e he hb
    have hi : i < l.length := by simpa using (Array.getElem?_eq_some_iff.1 ho).1
    have h1 := List.all_eq_true.1 hdep i (List.mem_range.2 hi)
    have ho' : l[i]? = some o := by simpa using ho
    rw [ho'] at h1
    simp only [Option.map_some, Option.getD_some, Array.all_eq_true_iff_forall_mem] at h1
    have h2 := h1 e he
    rw [hb] at h2
    simpa using h2
  · intro L a w i o hs ho hf hall hI
    exact hstep L a w i o (by simpa using hs) (by simpa using ho) hf hall hI
  · intro L a w hs hall hI
    exact hend L a w (by simpa using hs) (fun i hi => hall i (by simpa using hi)) hI
  · have := List.countP_le_length (p := fun b => !b) (l := (Array.replicate l.toArray.size false).toList)
    simpa using this
end
end Go.Cf
