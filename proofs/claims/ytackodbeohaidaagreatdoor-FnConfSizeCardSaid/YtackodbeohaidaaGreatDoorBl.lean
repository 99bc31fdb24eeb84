/-
  A region that draws its order and makes values: the whole frame behind it.
-/
import Derived.Test.YtackodbeohaidaaGreatDoorBld
namespace Go.Cf
open Go.RowKit Go.Conc Go.Proofs
section
variable {P : Program} {Q : Exit → Act → World → Prop}
structure BlAt (C : Nat → Value → Lab → World → Prop) (dst : Nat → Nat) (a0 : Act) (w0 : World) (lab0 : Lab) (len : Nat) (L : Array Bool) (a : Act) (lab : Lab) (w : World) : Prop where
  defers : a.defers = []
  size : a.tmps.size = a0.tmps.size
  keep : ∀ j, (∀ k, k < len → dst k ≠ j) → a.tmps.getD j undef = a0.tmps.getD j undef
  mv : Mv (fun _ => False) w0 lab0 w lab
  got : ∀ k, k < len → L.getD k false = true → C k (a.tmps.getD (dst k) undef) lab w
theorem wp_region_frame {id : Nat} {l : List Oper} {a : Act} {w : World} (C : Nat → Value → Lab → World → Prop) (dst : Nat → Nat) (lab : Lab) (hm : P.follows .mixedOrders = true)
    (hdep : (List.range l.length).all (fun i => ((l[i]?).map fun o => o.after.all fun e => !Region.binds .any e || decide (e.on < i)).getD true) = true)
    (hdst : ∀ i o, l[i]? = some o → o.dst = some (dst i) ∧ o.guard = none ∧ dst i < a.tmps.size ∧ ∀ k, k < l.length → dst k = dst i → k = i)
    (hd0 : a.defers = [])
    (hC : ∀ k v lab w lab' w', C k v lab w → Mv (fun _ => False) w lab w' lab' → C k v lab' w')
    (hstep : ∀ L a' lab' w' i o, l[i]? = some o → (∀ e ∈ o.after, Region.binds .any e = true → L.getD e.on false = true) → BlAt C dst a w lab l.length L a' lab' w' → Does P o a' lab' w' (C i))
    (hend : ∀ a' lab' w', (∀ k, k < l.length → C k (a'.tmps.getD (dst k) undef) lab' w') → a'.defers = [] → a'.tmps.size = a.tmps.size → (∀ j, (∀ k, k < l.length → dst k ≠ j) → a'.tmps.getD j undef = a.tmps.getD j undef) → Mv (fun _ => False) w lab w' lab' → Q .normal a' w') :
    (Code.region id l.toArray true).wp P Q a w := by
  refine wp_region_inv (fun L a' w' => ∃ lab', BlAt C dst a w lab l.length L a' lab' w') hm hdep ?_ ?_ ?_
  · refine ⟨lab, hd0, rfl, fun _ _ => rfl, ⟨rfl, rfl, rfl, Nat.le_refl _, fun _ _ _ => rfl, fun _ _ _ => rfl⟩, fun k hk h => ?_⟩
    simp [Array.getD] at h
  · rintro L a' w' i o hL ho hf hall ⟨lab', hb⟩
    have hs := hstep L a' lab' w' i o ho hall hb
    obtain ⟨h1, h2, h3, h5⟩ := hdst i o ho
    have hi : i < l.length := (List.getElem?_eq_some_iff.1 ho).1
    have key : ∀ v lab2 w2, Mv (fun _ => False) w' lab' w2 lab2 → C i v lab2 w2 → ∃ lab3, BlAt C dst a w lab l.length (L.setIfInBounds i true) (a'.put o.dst v) lab3 w2 := by
      intro v lab2 w2 m hc
      rw [h1]
      have hsz : dst i < a'.tmps.size := by rw [hb.size]; exact h3
      refine ⟨lab2, hb.defers, by simpa [Act.put] using hb.size, fun j hj => ?_, hb.mv.trans m (fun _ h => h), fun k hk hlk => ?_⟩
      · rw [put_getD hsz, if_neg (fun e => hj i hi e.symm)]
        exact hb.keep j hj
      · rw [put_getD hsz]
        by_cases hki : k = i
        · subst hki; rw [if_pos rfl]; exact hc
        · rw [if_neg (fun e => hki (h5 k hk e))]
          refine hC k _ _ _ _ _ (hb.got k hk ?_) m
          rw [Array.getD_eq_getD_getElem?, Array.getElem?_setIfInBounds_ne (fun e => hki e.symm), ← Array.getD_eq_getD_getElem?] at hlk
          exact hlk
    have hw : Region.wanted o (yielded l.toArray a'.tmps) = true := by simp [Region.wanted, h2]
    unfold wpOp
    simp only [List.getElem?_toArray, ho, hw, if_true]
    left
    unfold Oper.wp
    rcases hs with ⟨v, w2, lab2, hrun, m, hc⟩ | ⟨f, args, hrun, hcalls⟩
    · rw [hrun]
      exact key v lab2 w2 m hc
    · rw [hrun, Oper.upon_enter]
      refine hcalls.mono ?_
      rintro e w2 ⟨v, lab2, rfl, m, hc⟩
      exact key v lab2 w2 m hc
  · rintro L a' w' hL hall ⟨lab', hb⟩
    exact hend a' lab' w' (fun k hk => hb.got k hk (hall k hk)) hb.defers hb.size hb.keep hb.mv
/-- A frame that differs from another one within a range alone. -/
theorem frame_range (t t0 : Array Value) (lo m : Nat) (hs : t.size = t0.size) (hlo : lo + m ≤ t0.size) (h : ∀ j, ¬ (lo ≤ j ∧ j < lo + m) → t.getD j undef = t0.getD j undef) :
    ∃ us : List Value, us.length = m ∧ t = (t0.toList.take lo ++ (us ++ t0.toList.drop (lo + m))).toArray := by
  have hl : t.toList.length = t.size := by simp
  have hl0 : t0.toList.length = t0.size := by simp
  have hget : ∀ j, ¬ (lo ≤ j ∧ j < lo + m) → t.toList[j]? = t0.toList[j]? := by
    intro j hj
    have hj' := h j hj
    simp only [Array.getD_eq_getD_getElem?] at hj'
    rw [Array.getElem?_toList, Array.getElem?_toList]
    rcases Nat.lt_or_ge j t.size with hlt | hge
    · rw [Array.getElem?_eq_getElem hlt, Array.getElem?_eq_getElem (by omega)] at hj' ⊢
      simpa using hj'
    · rw [Array.getElem?_eq_none hge, Array.getElem?_eq_none (by omega)]
  refine ⟨(t.toList.drop lo).take m, by rw [List.length_take, List.length_drop]; omega, ?_⟩
  apply Array.ext'
  rw [List.toList_toArray]
  apply List.ext_getElem?
  intro j
  rcases Nat.lt_or_ge j lo with h1 | h1
  · rw [List.getElem?_append_left (by rw [List.length_take]; omega), List.getElem?_take_of_lt h1]
    exact hget j (by omega)
  · have hlen1 : (t0.toList.take lo).length = lo := by rw [List.length_take]; omega
    rw [List.getElem?_append_right (by omega), hlen1]
    have hlen2 : ((t.toList.drop lo).take m).length = m := by rw [List.length_take, List.length_drop]; omega
    rcases Nat.lt_or_ge j (lo + m) with h2 | h2
    · rw [List.getElem?_append_left (by omega), List.getElem?_take_of_lt (by omega), List.getElem?_drop]
      congr 1
      omega
    · rw [List.getElem?_append_right (by omega), hlen2, List.getElem?_drop, hget j (by omega)]
      congr 1
      omega
/-- Where the operations of an assignment put what they make: from lo on, the last one into r. -/
def dstA (lo m r : Nat) (k : Nat) : Nat := if k = m then r else lo + k
theorem dstA_inj {lo m r k i : Nat} (hr : r < lo) (h : dstA lo m r k = dstA lo m r i) (_hk : k < m + 1) (_hi : i < m + 1) : k = i := by
  unfold dstA at h
  split at h <;> split at h <;> omega
/-- 'x := ..' in a region that draws its order. -/
theorem wp_region_assign {id : Nat} {l : List Oper} {a : Act} {w : World} (C : Nat → Value → Lab → World → Prop) (lo m r : Nat) (lab : Lab) (hm : P.follows .mixedOrders = true)
    (hdep : (List.range l.length).all (fun i => ((l[i]?).map fun o => o.after.all fun e => !Region.binds .any e || decide (e.on < i)).getD true) = true)
    (hlen : l.length = m + 1) (hr : r < lo) (hlo : lo + m ≤ a.tmps.size)
    (hdst : (List.range l.length).all (fun i => ((l[i]?).map fun o => o.dst == some (dstA lo m r i) && o.guard.isNone).getD true) = true)
    (hd0 : a.defers = [])
    (hC : ∀ k v lab w lab' w', C k v lab w → Mv (fun _ => False) w lab w' lab' → C k v lab' w')
    (hstep : ∀ L a' lab' w' i o, l[i]? = some o → (∀ e ∈ o.after, Region.binds .any e = true → L.getD e.on false = true) → BlAt C (dstA lo m r) a w lab l.length L a' lab' w' → Does P o a' lab' w' (C i))
    (hend : ∀ us v lab' w', us.length = m → C m v lab' w' → Mv (fun _ => False) w lab w' lab' → Q .normal ⟨((a.tmps.setIfInBounds r v).toList.take lo ++ (us ++ (a.tmps.setIfInBounds r v).toList.drop (lo + m))).toArray, []⟩ w') :
    (Code.region id l.toArray true).wp P Q a w := by
  have hd : ∀ i o, l[i]? = some o → o.dst = some (dstA lo m r i) ∧ o.guard = none := by
    intro i o ho
    have hi : i < l.length := (List.getElem?_eq_some_iff.1 ho).1
    have h1 := List.all_eq_true.1 hdst i (List.mem_range.2 hi)
    rw [ho] at h1
    simpa using h1
  refine wp_region_frame C (dstA lo m r) lab hm hdep (fun i o ho => ?_) hd0 hC hstep ?_
  · have hi : i < l.length := (List.getElem?_eq_some_iff.1 ho).1
    refine ⟨(hd i o ho).1, (hd i o ho).2, ?_, fun k hk e => dstA_inj hr e (by omega) (by omega)⟩
    unfold dstA
    split <;> omega
  · intro a' lab' w' hgot hdf hs hkeep mv
    have hv := hgot m (by omega)
    have hdm : dstA lo m r m = r := if_pos rfl
    rw [hdm] at hv
    obtain ⟨us, hl, ht⟩ := frame_range a'.tmps (a.tmps.setIfInBounds r (a'.tmps.getD r undef)) lo m (by simpa using hs) (by simpa using hlo) (fun j hj => by
      by_cases hjr : j = r
      · subst hjr
        simp only [Array.getD_eq_getD_getElem?]
        rw [Array.getElem?_setIfInBounds_self_of_lt (by omega)]
        rfl
      · have : a'.tmps.getD j undef = a.tmps.getD j undef := hkeep j (fun k hk e => by
          unfold dstA at e
          split at e <;> omega)
        rw [this]
        simp only [Array.getD_eq_getD_getElem?]
        rw [Array.getElem?_setIfInBounds_ne (fun e => hjr e.symm)])
    have := hend us _ lab' w' hl hv mv
    obtain ⟨t, d⟩ := a'
    simp only at hdf ht this
    subst hdf
    rw [ht]
    exact this
end
end Go.Cf
