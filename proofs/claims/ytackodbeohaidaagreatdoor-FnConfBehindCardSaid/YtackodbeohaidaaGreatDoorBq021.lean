/-
  Texts joined: Bb2 Bb3 Bb4 Sg Si Vc Sj Sk Bb5a.
-/
import Derived.Test.YtackodbeohaidaaGreatDoorBq010
import Derived.Test.YtackodbeohaidaaGreatDoorBq020
import Derived.BigQuiet
namespace Go.Cf
open Go.RowKit Go.Conc Go.Proofs
abbrev KB5 (x : Nat) : Prop := x = 50 ∨ x = 51 ∨ x = 52
def sB (s0 i : Nat) : Nat := if i ≤ 18 then s0 + i else s0 + i - 1
def tyB (d : Nat) : Nat := if d = 0 then 9 else 26
def wdB (d : Nat) : Nat := if d = 0 then 1 else 7
structure Lanes where
 ol : Nat → Value
 nl : Nat → Nat
 xl : Nat → List Value
 yl : Nat → List Value
 pv : Nat → Option Value
 ok : ∀ d,d < 2 → pv (9 * d + 7) = none ∧ pv (9 * d + 8) = none ∧ pv (19 + 2 * d) = none
def curB (E : Lanes) (s0 : Nat) (L : Array Bool) (a : Act) (d : Nat) : Value := if L.getD (19 + 2 * d) false = true then a.tmps.getD (s0 + 9 * d + 8) undef else E.ol d
structure RL (E : Lanes) (lab0 : Lab) (w0 : World) (b s0 : Nat) (t0 : Array Value) (L : Array Bool) (a : Act) (lab : Lab) (w : World) : Prop where
 defers : a.defers = []
 size : a.tmps.size = t0.size
 keep : ∀ j,¬ (s0 ≤ j ∧ j < s0 + 20) → a.tmps.getD j undef = t0.getD j undef
 mv : Mv KB5 w0 lab0 w lab
 got : ∀ i v,i < 22 → L.getD i false = true → E.pv i = some v → a.tmps.getD (sB s0 i) undef = v
 g7 : ∀ d,d < 2 → L.getD (9 * d + 7) false = true → ∃ g,a.tmps.getD (s0 + 9 * d + 7) undef = .slice (some ⟨g,0,none⟩) 1 1 ∧ Cl 55 lab w g (E.yl d).toArray (tyB d)
 cl : Cl 50 lab w b (ndC 6 0 0 false ⟨#[]⟩ (curB E s0 L a 0) (curB E s0 L a 1)) 26
 rw : ∀ d,d < 2 → if L.getD (9 * d + 8) false = true then Rw 0 (51 + d) lab w (tyB d) (wdB d) (a.tmps.getD (s0 + 9 * d + 8) undef) (E.nl d + 1) (E.xl d ++ E.yl d) else Rw 0 (51 + d) lab w (tyB d) (wdB d) (E.ol d) (E.nl d) (E.xl d)
 ord : ∀ d,d < 2 → (L.getD (19 + 2 * d) false = true → L.getD (9 * d + 8) false = true) ∧ (L.getD (9 * d + 8) false = true → L.getD (9 * d + 1) false = true)
section
variable {E : Lanes} {lab0 lab lab2 : Lab} {w0 w w2 : World} {b s0 : Nat} {t0 : Array Value} {L : Array Bool} {a : Act}
theorem RL.plain (h : RL E lab0 w0 b s0 t0 L a lab w) (hL : L.size = 22) (ht : s0 + 20 ≤ t0.size) (i : Nat) (hi : i < 22) (v : Value) (hv : E.pv i = some v) (hx : ∀ d,d < 2 → i = 9 * d + 1 → L.getD (9 * d + 8) false = false) :
  RL E lab0 w0 b s0 t0 (L.setIfInBounds i true) (a.put (some (sB s0 i)) v) lab w := by
 have hn : ∀ d,d < 2 → i ≠ 9 * d + 7 ∧ i ≠ 9 * d + 8 ∧ i ≠ 19 + 2 * d := fun d hd => by
  obtain ⟨h1,h2,h3⟩ := E.ok d hd;refine ⟨?_,?_,?_⟩ <;> (rintro rfl;simp_all)
 have n0 := hn 0 (by decide);have n1 := hn 1 (by decide);have hsi : s0 ≤ sB s0 i ∧ sB s0 i < s0 + 20 := by unfold sB;split <;> omega
 have hs : sB s0 i < a.tmps.size := by rw [h.size];omega
 have hg : ∀ j,(L.setIfInBounds i true).getD j false = if j = i then true else L.getD j false := fun j => getD_set L i j (by omega)
 have hne : ∀ j,j ≠ i → (L.setIfInBounds i true).getD j false = L.getD j false := fun j hj => by rw [hg,if_neg hj]
 have hp : ∀ k,(a.put (some (sB s0 i)) v).tmps.getD k undef = if k = sB s0 i then v else a.tmps.getD k undef := fun k => put_getD hs
 have h8 : ∀ d,d < 2 → ∀ c,c = 7 ∨ c = 8 → (a.put (some (sB s0 i)) v).tmps.getD (s0 + 9 * d + c) undef = a.tmps.getD (s0 + 9 * d + c) undef := fun d hd c hc => by
  have := hn d hd;rw [hp,if_neg];unfold sB;split <;> omega
 have hc : ∀ d,d < 2 → curB E s0 (L.setIfInBounds i true) (a.put (some (sB s0 i)) v) d = curB E s0 L a d := fun d hd => by
  have := hn d hd;unfold curB;rw [hne _ (by omega),h8 d hd 8 (.inr rfl)]
 refine ⟨h.defers,by simpa [Act.put] using h.size,fun j hj => ?_,h.mv,fun j u hj hlj hu => ?_,fun d hd => ?_,?_,fun d hd => ?_,fun d hd => ?_⟩
 ·rw [hp,if_neg (by omega)];exact h.keep j hj
 ·rw [hp];by_cases hji : j = i
  ·subst hji;rw [if_pos rfl];exact Option.some.inj (hv.symm.trans hu)
  ·have hj0 : j ≠ 19 ∧ j ≠ 21 := by
    have e0 := (E.ok 0 (by decide)).2.2;have e1 := (E.ok 1 (by decide)).2.2;refine ⟨?_,?_⟩ <;> (rintro rfl;simp_all)
   rw [if_neg (by unfold sB;split <;> split <;> omega)];rw [hne j hji] at hlj;exact h.got j u hj hlj hu
 ·have := hn d hd;rw [hne _ (by omega),h8 d hd 7 (.inl rfl)];exact h.g7 d hd
 ·rw [hc 0 (by decide),hc 1 (by decide)];exact h.cl
 ·have := hn d hd;rw [hne _ (by omega),h8 d hd 8 (.inr rfl)];exact h.rw d hd
 ·have := hn d hd;rw [hne _ (by omega),hne (9 * d + 8) (by omega),hg];refine ⟨(h.ord d hd).1,fun e => ?_⟩;by_cases e2 : 9 * d + 1 = i
  ·rw [if_pos e2]
  ·rw [if_neg e2];exact (h.ord d hd).2 e
theorem RL.grow (h : RL E lab0 w0 b s0 t0 L a lab w) (m : Mv (fun _ => False) w lab w2 lab2) : RL E lab0 w0 b s0 t0 L a lab2 w2 := by
 refine ⟨h.defers,h.size,h.keep,h.mv.trans m (fun _ h => h.elim),h.got,fun d hd e => ?_,h.cl.mv m (fun h => h),fun d hd => ?_,h.ord⟩
 ·obtain ⟨g,h1,h2⟩ := h.g7 d hd e;exact ⟨g,h1,h2.mv m (fun h => h)⟩
 ·have := h.rw d hd
  split
  ·next hc => rw [if_pos hc] at this;exact this.mv m (fun h => h)
  ·next hc => rw [if_neg hc] at this;exact this.mv m (fun h => h)
theorem RL.slot (h : RL E lab0 w0 b s0 t0 L a lab w) (hL : L.size = 22) (ht : s0 + 20 ≤ t0.size) (d : Nat) (hd : d < 2) (g : Nat) (hgc : Cl 55 lab w g (E.yl d).toArray (tyB d)) :
  RL E lab0 w0 b s0 t0 (L.setIfInBounds (9 * d + 7) true) (a.put (some (s0 + 9 * d + 7)) (.slice (some ⟨g,0,none⟩) 1 1)) lab w := by
 have hs : s0 + 9 * d + 7 < a.tmps.size := by rw [h.size];omega
 have hg : ∀ j,(L.setIfInBounds (9 * d + 7) true).getD j false = if j = 9 * d + 7 then true else L.getD j false := fun j => getD_set L _ j (by omega)
 have hne : ∀ j,j ≠ 9 * d + 7 → (L.setIfInBounds (9 * d + 7) true).getD j false = L.getD j false := fun j hj => by rw [hg,if_neg hj]
 have hp : ∀ k,(a.put (some (s0 + 9 * d + 7)) (.slice (some ⟨g,0,none⟩) 1 1)).tmps.getD k undef = if k = s0 + 9 * d + 7 then (.slice (some ⟨g,0,none⟩) 1 1) else a.tmps.getD k undef := fun k => put_getD hs
 have hc : ∀ e,e < 2 → curB E s0 (L.setIfInBounds (9 * d + 7) true) (a.put (some (s0 + 9 * d + 7)) (.slice (some ⟨g,0,none⟩) 1 1)) e = curB E s0 L a e := fun e he => by
  unfold curB;rw [hne _ (by omega),hp,if_neg (show ¬ s0 + 9 * e + 8 = s0 + 9 * d + 7 by omega)]
 refine ⟨h.defers,by simpa [Act.put] using h.size,fun j hj => ?_,h.mv,fun j u hj hlj hu => ?_,fun e he => ?_,?_,fun e he => ?_,fun e he => ?_⟩
 ·rw [hp,if_neg (by omega)];exact h.keep j hj
 ·have hjd : j ≠ 9 * d + 7 ∧ j ≠ 19 := by
   have e0 := (E.ok 0 (by decide)).2.2;have e1 := (E.ok d hd).1;refine ⟨?_,?_⟩ <;> (rintro rfl;simp_all)
  rw [hne j hjd.1] at hlj;rw [hp,if_neg (by unfold sB;split <;> omega)];exact h.got j u hj hlj hu
 ·by_cases hde : e = d
  ·subst hde;exact fun _ => ⟨g,by rw [hp,if_pos rfl],hgc⟩
  ·rw [hne _ (by omega),hp,if_neg (by omega)];exact h.g7 e he
 ·rw [hc 0 (by decide),hc 1 (by decide)];exact h.cl
 ·rw [hne _ (by omega),hp,if_neg (show ¬ s0 + 9 * e + 8 = s0 + 9 * d + 7 by omega)];exact h.rw e he
 ·rw [hne _ (by omega),hne (9 * e + 8) (by omega),hne (9 * e + 1) (by omega)];exact h.ord e he
theorem RL.app (h : RL E lab0 w0 b s0 t0 L a lab w) (hL : L.size = 22) (ht : s0 + 20 ≤ t0.size) (d : Nat) (hd : d < 2) (m : Mv (· = 51 + d) w lab w2 lab2) (h1 : L.getD (9 * d + 1) false = true) (hst : L.getD (19 + 2 * d) false = false) (v : Value)
  (hrw : Rw 0 (51 + d) lab2 w2 (tyB d) (wdB d) v (E.nl d + 1) (E.xl d ++ E.yl d)) : RL E lab0 w0 b s0 t0 (L.setIfInBounds (9 * d + 8) true) (a.put (some (s0 + 9 * d + 8)) v) lab2 w2 := by
 have hs : s0 + 9 * d + 8 < a.tmps.size := by rw [h.size];omega
 have hg : ∀ j,(L.setIfInBounds (9 * d + 8) true).getD j false = if j = 9 * d + 8 then true else L.getD j false := fun j => getD_set L _ j (by omega)
 have hne : ∀ j,j ≠ 9 * d + 8 → (L.setIfInBounds (9 * d + 8) true).getD j false = L.getD j false := fun j hj => by rw [hg,if_neg hj]
 have hp : ∀ k,(a.put (some (s0 + 9 * d + 8)) v).tmps.getD k undef = if k = s0 + 9 * d + 8 then v else a.tmps.getD k undef := fun k => put_getD hs
 have hc : ∀ e,e < 2 → curB E s0 (L.setIfInBounds (9 * d + 8) true) (a.put (some (s0 + 9 * d + 8)) v) e = curB E s0 L a e := fun e he => by
  unfold curB;rw [hne _ (by omega),hp];by_cases hde : e = d
  ·subst hde;rw [if_neg (by rw [hst];decide),if_neg (by rw [hst];decide)]
  ·rw [if_neg (show ¬ s0 + 9 * e + 8 = s0 + 9 * d + 8 by omega)]
 refine ⟨h.defers,by simpa [Act.put] using h.size,fun j hj => ?_,h.mv.trans m (fun x hx => by omega),fun j u hj hlj hu => ?_,fun e he => ?_,?_,fun e he => ?_,fun e he => ?_⟩
 ·rw [hp,if_neg (by omega)];exact h.keep j hj
 ·have hjd : j ≠ 9 * d + 8 ∧ j ≠ 19 := by
   have e0 := (E.ok 0 (by decide)).2.2;have e1 := (E.ok d hd).2.1;refine ⟨?_,?_⟩ <;> (rintro rfl;simp_all)
  rw [hne j hjd.1] at hlj;rw [hp,if_neg (by unfold sB;split <;> omega)];exact h.got j u hj hlj hu
 ·rw [hne _ (by omega),hp,if_neg (by omega)];intro e7;obtain ⟨g,h1,h2⟩ := h.g7 e he e7;exact ⟨g,h1,h2.mv m (by omega)⟩
 ·rw [hc 0 (by decide),hc 1 (by decide)];exact h.cl.mv m (by omega)
 ·by_cases hde : e = d
  ·subst hde;rw [hg,if_pos rfl,if_pos rfl,hp,if_pos rfl];exact hrw
  ·rw [hne _ (by omega),hp,if_neg (show ¬ s0 + 9 * e + 8 = s0 + 9 * d + 8 by omega)];have := h.rw e he
   split
   ·next hc => rw [if_pos hc] at this;exact this.mv m (by omega)
   ·next hc => rw [if_neg hc] at this;exact this.mv m (by omega)
 ·rw [hne (19 + 2 * e) (by omega),hne (9 * e + 1) (by omega),hg];by_cases hde : 9 * e + 8 = 9 * d + 8
  ·have : e = d := by omega
   subst this;exact ⟨fun _ => by rw [if_pos rfl],fun _ => h1⟩
  ·rw [if_neg hde];exact h.ord e he
theorem RL.store (h : RL E lab0 w0 b s0 t0 L a lab w) (hL : L.size = 22) (d : Nat) (hd : d < 2) (h8 : L.getD (9 * d + 8) false = true) (v : Value) :
  RL E lab0 w0 b s0 t0 (L.setIfInBounds (19 + 2 * d) true) (a.put none v) lab (w.setCell ⟨b,5 + d,none⟩ (a.tmps.getD (s0 + 9 * d + 8) undef)) := by
 have hg : ∀ j,(L.setIfInBounds (19 + 2 * d) true).getD j false = if j = 19 + 2 * d then true else L.getD j false := fun j => getD_set L _ j (by omega)
 have hne : ∀ j,j ≠ 19 + 2 * d → (L.setIfInBounds (19 + 2 * d) true).getD j false = L.getD j false := fun j hj => by rw [hg,if_neg hj]
 have m : Mv (· = 50) w lab (w.setCell ⟨b,5 + d,none⟩ (a.tmps.getD (s0 + 9 * d + 8) undef)) lab := Mv.setCell _ _ _ _ h.cl.2;have hc : ∀ e,curB E s0 (L.setIfInBounds (19 + 2 * d) true) (a.put none v) e = if e = d then a.tmps.getD (s0 + 9 * d + 8) undef else curB E s0 L a e := fun e => by
  unfold curB;by_cases hde : e = d
  ·subst hde;rw [hg,if_pos rfl,if_pos rfl,if_pos rfl];rfl
  ·rw [hne _ (by omega),if_neg hde];rfl
 refine ⟨h.defers,h.size,h.keep,h.mv.trans m (fun _ h => .inl h),fun j u hj hlj hu => ?_,fun e he => ?_,?_,fun e he => ?_,fun e he => ?_⟩
 ·have hjd : j ≠ 19 + 2 * d := by
   have e1 := (E.ok d hd).2.2;rintro rfl;simp_all
  rw [hne j hjd] at hlj;exact h.got j u hj hlj hu
 ·rw [hne _ (by omega)];intro e7;obtain ⟨g,h1,h2⟩ := h.g7 e he e7;exact ⟨g,h1,h2.mv m (by decide)⟩
 ·rw [hc,hc]
  match d,hd with
  | 0,_ => rw [if_pos rfl,if_neg (by decide)];exact h.cl.set 5 _
  | 1,_ => rw [if_pos rfl,if_neg (by decide)];exact h.cl.set 6 _
 ·rw [hne _ (by omega)];have := h.rw e he
  split
  ·next hc => rw [if_pos hc] at this;exact this.mv m (by omega)
  ·next hc => rw [if_neg hc] at this;exact this.mv m (by omega)
 ·rw [hne (9 * e + 8) (by omega),hne (9 * e + 1) (by omega),hg];refine ⟨fun e1 => ?_,(h.ord e he).2⟩;by_cases hde : 19 + 2 * e = 19 + 2 * d
  ·have : e = d := by omega
   subst this;exact h8
  ·rw [if_neg hde] at e1;exact (h.ord e he).1 e1
theorem RL.old (h : RL E lab0 w0 b s0 t0 L a lab w) (d : Nat) (hd : d < 2) (hf : L.getD (9 * d + 1) false = false) : L.getD (9 * d + 8) false = false ∧ w.cell? ⟨b,5 + d,none⟩ = some (E.ol d) := by
 have h8 : L.getD (9 * d + 8) false = false := by
  cases hc : L.getD (9 * d + 8) false with
  | false => rfl
  | true => rw [(h.ord d hd).2 hc] at hf;cases hf
 have h19 : ¬ L.getD (19 + 2 * d) false = true := fun e => by rw [(h.ord d hd).1 e] at h8;cases h8
 refine ⟨h8,?_⟩
 match d,hd with
 | 0,_ =>
  have q := h.cl.cell 5;unfold curB at q;rw [if_neg h19] at q;exact q
 | 1,_ =>
  have q := h.cl.cell 6;unfold curB at q;rw [if_neg (show ¬ L.getD (19 + 2 * 1) false = true from h19)] at q;exact q
theorem rows_region {P : Program} {Q : Exit → Act → World → Prop} {id : Nat} {l : List Oper} (E : Lanes) (s0 : Nat) (hcl : Cl 50 lab w b (ndC 6 0 0 false ⟨#[]⟩ (E.ol 0) (E.ol 1)) 26) (hrow : ∀ d,d < 2 → Rw 0 (51 + d) lab w (tyB d) (wdB d) (E.ol d) (E.nl d) (E.xl d)) (hm : P.follows .mixedOrders = true)
  (hdep : (List.range l.length).all (fun i => ((l[i]?).map fun o => o.after.all fun e => !Region.binds .any e || decide (e.on < i)).getD true) = true)
  (hl : l.length = 22) (hd : a.defers = []) (ht : s0 + 20 ≤ a.tmps.size)
  (hstep : ∀ L a' lab' w' i o,L.size = 22 → l[i]? = some o → L.getD i false = false → (∀ e ∈ o.after,Region.binds .any e = true → L.getD e.on false = true) → RL E lab w b s0 a.tmps L a' lab' w' →
   wpOp P l.toArray Q i (fun a2 w2 => ∃ lab2,RL E lab w b s0 a.tmps (L.setIfInBounds i true) a2 lab2 w2) a' w')
  (hend : ∀ (u : List Value) lab' w' kv lv,u.length = 20 → Cl 50 lab' w' b (ndC 6 0 0 false ⟨#[]⟩ kv lv) 26 → Rw 0 51 lab' w' 9 1 kv (E.nl 0 + 1) (E.xl 0 ++ E.yl 0) → Rw 0 52 lab' w' 26 7 lv (E.nl 1 + 1) (E.xl 1 ++ E.yl 1) → Mv KB5 w lab w' lab' → Q .normal ⟨(a.tmps.toList.take s0 ++ (u ++ a.tmps.toList.drop (s0 + 20))).toArray,[]⟩ w') :
  (Code.region id l.toArray true).wp P Q a w := by
 have hrep : ∀ i,(Array.replicate l.length false).getD i false = false := fun i => by
  rw [gdg,Array.getElem?_replicate]
  split <;> rfl
 refine wp_region_inv (fun L a' w' => L.size = 22 ∧ ∃ lab',RL E lab w b s0 a.tmps L a' lab' w') hm hdep ?_ ?_ ?_
 ·refine ⟨by rw [Array.size_replicate,hl],lab,hd,rfl,fun _ _ => rfl,⟨rfl,rfl,rfl,Nat.le_refl _,fun _ _ _ => rfl,fun _ _ _ => rfl⟩,fun i v _ h => ?_,fun d _ h => ?_,?_,fun d hd => ?_,fun d _ => ⟨fun h => ?_,fun h => ?_⟩⟩
  ·rw [hrep] at h;cases h
  ·rw [hrep] at h;cases h
  ·unfold curB;rw [if_neg (by rw [hrep];decide),if_neg (by rw [hrep];decide)];exact hcl
  ·rw [if_neg (by rw [hrep];decide)];exact hrow d hd
  ·rw [hrep] at h;cases h
  ·rw [hrep] at h;cases h
 ·rintro L a' w' i o hL ho hf hall ⟨_,lab',hr⟩;rw [hl] at hL;have hf2 : L.getD i false = false := by
   rw [gdg] at hf ⊢
   cases hc : L[i]? with
   | none => rfl
   | some x => rw [hc] at hf;exact hf
  have := hstep L a' lab' w' i o hL ho hf2 hall hr;exact wpOp_mono (fun a2 w2 h => ⟨by simpa using hL,h⟩) this
 ·rintro L a' w' hL hall ⟨_,lab',hr⟩;rw [hl] at hall;obtain ⟨u,hu,htt⟩ := frame_range a'.tmps a.tmps s0 20 hr.size (by omega) (fun j hj => hr.keep j (by omega));have hcl := hr.cl;have h1 := hr.rw 0 (by decide);have h2 := hr.rw 1 (by decide);unfold curB at hcl;rw [if_pos (hall 19 (by omega)),if_pos (hall 21 (by omega))] at hcl;rw [if_pos (hall 8 (by omega))] at h1;rw [if_pos (hall 17 (by omega))] at h2;have := hend u lab' w' _ _ hu hcl h1 h2 hr.mv;have hdf := hr.defers;obtain ⟨t,dd⟩ := a';simp only at hdf htt this;subst hdf;rw [htt];exact this
end
attribute [local go_sem ↓] appX_eq
section
variable {E : Lanes} {lab0 lab lab2 : Lab} {w0 w w2 : World} {b s0 : Nat} {t0 : Array Value} {L : Array Bool} {a : Act} {P : Program} {Q : Exit → Act → World → Prop} {l : List Oper} {o : Oper}
theorem RL.go (hr : RL E lab0 w0 b s0 t0 L a lab w) (hL : L.size = 22) (ht : s0 + 20 ≤ t0.size) (i : Nat) (v : Value) (ho : l[i]? = some o) (hi : i < 22) (hg : o.guard = none) (hdst : o.dst = some (sB s0 i)) (hv : E.pv i = some v) (hx : ∀ d,d < 2 → i = 9 * d + 1 → L.getD (9 * d + 8) false = false)
  (hrun : (execOp a.eval o).run P w = .ok (.value v) w) : wpOp P l.toArray Q i (fun a2 w2 => ∃ lab2,RL E lab0 w0 b s0 t0 (L.setIfInBounds i true) a2 lab2 w2) a w :=
 wpOp_run ho hg hrun (by rw [hdst];exact ⟨lab,hr.plain hL ht i hi v hv hx⟩)
theorem RL.got' (hr : RL E lab0 w0 b s0 t0 L a lab w) (i : Nat) (v : Value) (hi : i < 22) (h : L.getD i false = true) (hv : E.pv i = some v) : a.tmps[sB s0 i]?.getD undef = v := by
 rw [← gdg];exact hr.got i v hi h hv
theorem RL.kept' (hr : RL E lab0 w0 b s0 t0 L a lab w) (j : Nat) (v : Value) (hj : ¬ (s0 ≤ j ∧ j < s0 + 20)) (hv : t0[j]?.getD undef = v) : a.tmps[j]?.getD undef = v := by
 have := hr.keep j hj;rw [gdg,gdg] at this;exact this.trans hv
theorem RL.made (hr : RL E lab0 w0 b s0 t0 L a lab w) (hL : L.size = 22) (ht : s0 + 20 ≤ t0.size) (d : Nat) (hd : d < 2) : ∃ lab2,RL E lab0 w0 b s0 t0 (L.setIfInBounds (9 * d + 7) true) (a.put (some (s0 + 9 * d + 7)) (.slice (some ⟨w.heap.size,0,none⟩) 1 1)) lab2 (w.alloc (.cells (E.yl d).toArray (tyB d))) :=
 ⟨lab.ext w.heap.size 55,(hr.grow (Mv.alloc _ _ _ _)).slot hL ht d hd _ ⟨heap_alloc_new w _,Lab.ext_ge (Nat.le_refl _)⟩⟩
theorem RL.free19 (hr : RL E lab0 w0 b s0 t0 L a lab w) (d : Nat) (hd : d < 2) (hf : L.getD (9 * d + 8) false = false) : L.getD (19 + 2 * d) false = false ∧ Rw 0 (51 + d) lab w (tyB d) (wdB d) (E.ol d) (E.nl d) (E.xl d) := by
 refine ⟨?_,?_⟩
 ·cases hc : L.getD (19 + 2 * d) false with
  | false => rfl
  | true => rw [(hr.ord d hd).1 hc] at hf;cases hf
 ·have := hr.rw d hd;rw [if_neg (by rw [hf];decide)] at this;exact this
theorem RL.row0 (hr : RL E lab0 w0 b s0 t0 L a lab w) (hL : L.size = 22) (ht : s0 + 20 ≤ t0.size) (h7 : L.getD 7 false = true) (h1 : L.getD 1 false = true) (hf : L.getD 8 false = false) {k : ByteArray} (hk : E.yl 0 = [.string k]) (hn : E.nl 0 ≤ 100) :
  ∃ g v2 w2,a.tmps[s0 + 7]?.getD undef = .slice (some ⟨g,0,none⟩) 1 1 ∧ (AppX #[23,23] 23 #[E.ol 0,.slice (some ⟨g,0,none⟩) 1 1]).run Tryz.prog w = .ok v2 w2 ∧ ∃ lab2,RL E lab0 w0 b s0 t0 (L.setIfInBounds 8 true) (a.put (some (s0 + 8)) v2) lab2 w2 := by
 obtain ⟨g,e0,hg⟩ := hr.g7 0 (by decide) h7;obtain ⟨h19,hrw⟩ := hr.free19 0 (by decide) hf;rw [hk] at hg;have hnw : NewsIn w (some ⟨g,0,none⟩) [k] := by
  intro i x hx
  cases i with
  | zero =>
   simp only [List.getElem?_cons_zero,Option.some.injEq] at hx;subst hx;exact ⟨_,rfl,hg.cell 0⟩
  | succ i => simp at hx
 obtain ⟨v2,w2,hrun,hrw2,hg2,hat,_⟩ := app_str (c := 1) hrw hnw (by simp only [List.length_cons,List.length_nil];omega);have m1 : Mv (· = 51 + 0) w lab w2 (lab.ext w.heap.size 51) := Mv.grown hg2 lab 51 (fun x hx => hrw.2 x hx);rw [gdg] at e0;exact ⟨g,v2,w2,e0,hrun,_,hr.app hL ht 0 (by decide) m1 h1 h19 v2 (by rw [hk];exact hrw2)⟩
theorem RL.row1 (hr : RL E lab0 w0 b s0 t0 L a lab w) (hL : L.size = 22) (ht : s0 + 20 ≤ t0.size) (h7 : L.getD 16 false = true) (h1 : L.getD 10 false = true) (hf : L.getD 17 false = false) {k n : Int} {f : Nat} {is : Bool} {t : ByteArray} {a1 a2 : Option Addr} {m1 c1 m2 c2 : Nat}
  (hk : E.yl 1 = [.int .i64 k,.int .i64 n,.float .f64 f,.bool is,.string t,.slice a1 m1 c1,.slice a2 m2 c2]) (hn : E.nl 1 ≤ 100) :
  ∃ g v2 w2,a.tmps[s0 + 16]?.getD undef = .slice (some ⟨g,0,none⟩) 1 1 ∧ (AppX #[24,24] 24 #[E.ol 1,.slice (some ⟨g,0,none⟩) 1 1]).run Tryz.prog w = .ok v2 w2 ∧ ∃ lab2,RL E lab0 w0 b s0 t0 (L.setIfInBounds 17 true) (a.put (some (s0 + 17)) v2) lab2 w2 := by
 obtain ⟨g,e0,hg⟩ := hr.g7 1 (by decide) h7;obtain ⟨h19,hrw⟩ := hr.free19 1 (by decide) hf;rw [hk] at hg;obtain ⟨i0,hi0,hz0,hz1,hz2⟩ := info_parts info26z;obtain ⟨gg,cap2,w2,hrun,hown2,hg2,hat2,hlt2⟩ := run_append_lies (P := Tryz.prog) w 24 24 0 26 i0 _ 7 96 Tryz.underlying24 hi0 hz0 hz1 hz2 rfl (by omega) (E.ol 1) (E.nl 1) (E.xl 1) hrw.1
  ⟨g,0,none⟩ 1 1 [.int .i64 k,.int .i64 n,.float .f64 f,.bool is,.string t,.slice a1 m1 c1,.slice a2 m2 c2] (by rfl) (World.news_of_block (cs := #[.int .i64 k,.int .i64 n,.float .f64 f,.bool is,.string t,.slice a1 m1 c1,.slice a2 m2 c2]) (t := 26) (fr := (0,0)) hg.1) (by simp;exact ⟨rfl,rfl,rfl,rfl,rfl,rfl,rfl⟩)
  (by omega) (by simp only [maxLen];omega) (by omega) (Nat.zero_le _) w.heap.size rfl
 rw [appX_eq] at hrun;have m1 : Mv (· = 51 + 1) w lab w2 (lab.ext w.heap.size 52) := Mv.grown hg2 lab 52 (fun x hx => hrw.2 x hx);have hrw2 : Rw 0 (51 + 1) (lab.ext w.heap.size 52) w2 (tyB 1) (wdB 1) (.slice (some ⟨gg,0,none⟩) (E.nl 1 + 1) cap2) (E.nl 1 + 1) (E.xl 1 ++ E.yl 1) := by
  rw [hk];refine ⟨hown2,fun x hx => ?_⟩;simp only [Value.ownBlock,Option.some.injEq] at hx;subst hx;rcases hat2 with e | e
  ·have := hrw.own_lab gg e;rw [Lab.ext_lt this.2.2];exact this.1
  ·rw [e];exact Lab.ext_ge (Nat.le_refl _)
 rw [gdg] at e0;exact ⟨g,_,w2,e0,hrun,_,hr.app hL ht 1 (by decide) m1 h1 h19 _ hrw2⟩
theorem RL.stored (hr : RL E lab0 w0 b s0 t0 L a lab w) (hL : L.size = 22) (d : Nat) (hd : d < 2) (h8 : L.getD (9 * d + 8) false = true) : ∃ A n c old,a.tmps[s0 + 9 * d + 8]?.getD undef = .slice A n c ∧ w.cell? ⟨b,5 + d,none⟩ = some old ∧ w.frozen? ⟨b,5 + d,none⟩ = false ∧
  ∀ v,RL E lab0 w0 b s0 t0 (L.setIfInBounds (19 + 2 * d) true) (a.put none v) lab (w.setCell ⟨b,5 + d,none⟩ (.slice A n c)) := by
 have hrw := hr.rw d hd;rw [if_pos h8] at hrw;obtain ⟨A,cc,e1⟩ := hrw.shape;have hst := fun v => hr.store hL d hd h8 v
 rw [e1] at hst;rw [gdg] at e1;have hc : ∃ old,w.cell? ⟨b,5 + d,none⟩ = some old := by
  match d,hd with
  | 0,_ => exact ⟨_,hr.cl.cell 5⟩
  | 1,_ => exact ⟨_,hr.cl.cell 6⟩
 obtain ⟨old,hc⟩ := hc;exact ⟨A,_,cc,old,e1,hc,hr.cl.free _,hst⟩
end
end Go.Cf
namespace Go.Cf
open Go.RowKit Go.Conc Go.Proofs
section
variable {lab : Lab} {w w1 : World}
def WantRow (w : World) (vals : List Value) (D : List (ByteArray × JV)) : Prop := vals.length = D.length * 7 ∧ ∀ q x,D[q]? = some x → ∃ c : Array Value,(∀ i,i < 7 → vals[q * 7 + i]? = c[i]?) ∧ NdV 0 L0 w x.2 c
theorem WantRow.nil : WantRow w [] [] := ⟨rfl,fun q x h => by simp at h⟩
theorem WantRow.app {vals : List Value} {D : List (ByteArray × JV)} {x : ByteArray × JV} {c : Array Value} (h : WantRow w vals D) (hc : NdV 0 L0 w x.2 c) : WantRow w (vals ++ c.toList) (D ++ [x]) := by
 obtain ⟨h1,h2⟩ := h;have h7 : c.size = 7 := by
  obtain ⟨_,_,_,_,_,_,_,_,_,_,_,rfl⟩ := hc.shape;rfl
 refine ⟨by simp [h1,h7];omega,fun q y hy => ?_⟩;by_cases hq : q < D.length
 ·rw [List.getElem?_append_left hq] at hy;obtain ⟨c1,e1,e2⟩ := h2 q y hy;refine ⟨c1,fun i hi => ?_,e2⟩;rw [List.getElem?_append_left (by omega)];exact e1 i hi
 ·rw [List.getElem?_append_right (by omega)] at hy;have hq0 : q - D.length = 0 := by
   cases hn : q - D.length with
   | zero => rfl
   | succ n => rw [hn] at hy;simp at hy
  rw [hq0] at hy;simp only [List.getElem?_cons_zero,Option.some.injEq] at hy;subst hy;refine ⟨c,fun i hi => ?_,hc⟩;rw [List.getElem?_append_right (by omega),show q * 7 + i - vals.length = i from by omega,Array.getElem?_toList]
theorem row_add (g i : Nat) : (⟨g,0,none⟩ : Addr).add i = ⟨g,i,none⟩ := by
 unfold Addr.add
 split
 ·rename_i e;rw [e]
 ·simp
theorem want_ndv {kv lv : Value} {vals : List Value} {D : List (ByteArray × JV)} (hk : Rw 0 51 lab w1 9 1 kv D.length (D.map fun x => .string x.1)) (hl : Rw 0 52 lab w1 26 7 lv D.length vals) (hW : WantRow w vals D) (hb : Below w.heap.size w w1) :
  NdV 0 L0 w1 (.map (D.map (·.1)) (D.map (·.2))) (ndC 6 0 0 false ⟨#[]⟩ kv lv) := by
 obtain ⟨A,c1,rfl⟩ := hk.shape;obtain ⟨A2,c2,rfl⟩ := hl.shape;simp only [NdV];refine ⟨0,A,c1,A2,c2,FZ0,by simp,fun i k hi => ?_,NdVs.of fun q x hq => ?_⟩
 ·obtain ⟨g,rfl,_,hc,_⟩ := rw_at (i := i) (y := .string k) hk (by
   rw [List.getElem?_map] at hi ⊢;obtain ⟨x,hx,rfl⟩ := Option.map_eq_some_iff.1 hi;rw [hx];rfl)
  exact ⟨_,rfl,rfl,by rw [row_add];exact hc⟩
 ·rw [List.getElem?_map] at hq;obtain ⟨x,hx,rfl⟩ := Option.map_eq_some_iff.1 hq;obtain ⟨c,e1,e2⟩ := hW.2 q x hx;have h7 : c.size = 7 := by
   obtain ⟨_,_,_,_,_,_,_,_,_,_,_,rfl⟩ := e2.shape;rfl
  obtain ⟨g,rfl,_,_,_⟩ := rw_at hl ((e1 0 (by decide)).trans (Array.getElem?_eq_getElem (by omega)));refine ⟨_,c,rfl,rfl,fun i hi => ?_,NdV.mv hb.mvL (fun h => h) _ e2⟩;have ei : vals[q * 7 + i]? = some (c[i]'(by omega)) := (e1 i hi).trans (Array.getElem?_eq_getElem (by omega));obtain ⟨g',hg',_,hc,_⟩ := rw_at hl ei
  cases hg'
  rw [Nat.zero_add,row_add,hc,Array.getElem?_eq_getElem (by omega)]
theorem ge_size {top : Bool} : ∀ (l : List JV) {env : List (ByteArray × JV)} {path : ByteArray} {ln : Nat} {ks : List ByteArray} {T : ByteArray} {U : List ByteArray} {P : Pls} {envF : List (ByteArray × JV)},GE top env path ln ks l T U P envF → l.length ≤ T.size
 | [],_,_,_,_,_,_,_,_,h => Nat.zero_le _
 | j :: r,_,_,_,_,_,_,_,_,h => by
  simp only [GE] at h;obtain ⟨env1,k0,ks',kb0,Kt0,q0,nl0,V0,e0,R,Ua,Ub,Pa,Pb,rfl,a1,a2,a3,a4,a5,a6,a7,a8,a9,a10,hr,hU,hP,rfl⟩ := h;have h1 := ge_size r hr;have h2 : 1 ≤ (sepT q0).size := by
   match q0,a4 with
   | 0,_ | 1,_ | 2,_ | 3,_ | 4,_ | 5,_ => decide
  simp only [bsa,List.length_cons];omega
theorem brace_no {T T0 : ByteArray} (hT : T = T0 ∨ T = ⟨#[123]⟩ ++ (T0 ++ ⟨#[125]⟩)) (ho : T.size = 0 ∨ byteAt T 0 ≠ 123) : T = T0 := by
 rcases hT with h | h
 ·exact h
 ·exfalso
  rcases ho with ho | ho
  ·rw [h,bsa] at ho;have : (⟨#[123]⟩ : ByteArray).size = 1 := rfl;omega
  ·rw [h,byteAt_app_left _ _ 0 (by decide)] at ho;exact ho rfl
theorem zip_canon : ∀ (ks : List ByteArray) (l : List JV),ks.zip (canonL l) = (ks.zip l).map (fun p => (p.1,p.2.canon))
 | [],_ => by simp
 | _ :: _,[] => by simp [canonL]
 | k :: ks,j :: l => by simp [canonL,zip_canon ks l]
theorem canonL_map : ∀ l : List JV,canonL l = l.map JV.canon
 | [] => by simp [canonL]
 | j :: l => by simp [canonL,canonL_map l]
theorem conf_behind {ks ks2 : List ByteArray} {l l2 : List JV} {T T2 : ByteArray} {U U2 : List ByteArray} {P P2 : Pls} {envF envF2 : List (ByteArray × JV)} {path path2 : ByteArray} {ln ln2 : Nat} (htb : Tb L0 w) (hj : JT 6 (.map ks l)) (hj2 : JT 6 (.map ks2 l2)) (hs : T.size ≤ 20000) (hs2 : T2.size ≤ 20000)
  (hg : GE true [] path ln ks l T U P envF) (hg2 : GE true [] path2 ln2 ks2 l2 T2 U2 P2 envF2) (hp : ks.Pairwise ltB) (hp2 : ks2.Pairwise ltB) (D : List (ByteArray × JV)) (hD : D = mrg (ks.zip l) (ks2.zip l2)) :
  Calls Tryz.prog 15 #[.string (T ++ T2)] w fun e w' => ∃ c,e = .returned (.tuple #[.agg c,.int .i64 0]) ∧ NdV 0 L0 w' (.map (D.map (·.1)) (canonL (D.map (·.2)))) c ∧ Below w.heap.size w w' := by
 have hlen := ge_len l hg;have hlen2 := ge_len l2 hg2;have hcl : ks.length = (canonL l).length := by rw [canonL_len];exact hlen
 have hcl2 : ks2.length = (canonL l2).length := by rw [canonL_len];exact hlen2
 have e1 : (ks.zip (canonL l)).map (·.1) = ks := List.map_fst_zip (by omega);have hm : puts ks2 (canonL l2) (puts ks (canonL l) []) = D.map (fun p => (p.1,p.2.canon)) := by
  rw [puts_asc ks (canonL l) [] hcl (asc_of hp) (by simp),List.nil_append,puts_mrg ks2 (canonL l2) _ hcl2 hp2 (by rw [e1];exact hp),zip_canon,zip_canon,hD];exact mrg_map JV.canon _ _
 have hr : ReadAs (T ++ T2) (D.map (fun p => (p.1,p.2.canon))) := by
  rw [← hm];exact read_behind hasF hg hg2 (by rw [bsa];omega) (ge_size l hg)
 have f1 : ((D.map (fun p => (p.1,p.2.canon))).map (·.1) : List ByteArray) = D.map (·.1) := by rw [List.map_map];rfl
 have f2 : (D.map (fun p => (p.1,p.2.canon))).map (·.2) = canonL (D.map (·.2)) := by rw [canonL_map,List.map_map,List.map_map];rfl
 have hfit : (JV.map ((D.map (fun p => (p.1,p.2.canon))).map (·.1)) ((D.map (fun p => (p.1,p.2.canon))).map (·.2))).fits := by
  have a1 := canon_fits 6 _ hj;have a2 := canon_fits 6 _ hj2;simp only [JV.canon,JV.fits,canonL_map,fitsL_iff] at a1 a2 ⊢;have hl := mrg_len (ks.zip l) (ks2.zip l2);simp only [← hD,List.length_zip,List.length_map] at hl a1 a2 ⊢;refine ⟨?_,fun x hx => ?_⟩
  ·simp only [JT] at hj hj2;omega
  ·rw [List.map_map] at hx;obtain ⟨y,hy,rfl⟩ := List.mem_map.1 hx;rw [hD] at hy;rcases mem_mrg hy with hy | hy
   ·exact a1.2 _ (List.mem_map_of_mem (List.of_mem_zip hy).2)
   ·exact a2.2 _ (List.mem_map_of_mem (List.of_mem_zip hy).2)
 refine (Conf_c (B := 0) (lab := L0) _ _ (Nat.zero_le _) htb hr hfit).mono ?_;rintro e w' ⟨c,lab',rfl,hc,m⟩;unfold isC at hc;rw [f1,f2] at hc;exact ⟨c,rfl,isN.ndv _ _ hc,m.toBelow (Nat.le_refl _) (fun _ _ h => h.1 rfl)⟩
end
attribute [local go_sem] run_store_flt
section
variable {w w1 w2 : World} {j : JV} {c : Array Value} {sv : Value} {style : List UInt8} {a : Option Addr} {cc : Nat}
end
end Go.Cf
namespace Go.Cf
open Go.RowKit Go.Conc Go.Proofs
attribute [local go_sem] run_store_flt
section
variable {w w1 w2 : World} {k n : Int} {f : Nat} {is : Bool} {t : ByteArray} {a a1 a2 : Option Addr} {m c m1 m2 c1 c2 gk gl : Nat}
set_option maxRecDepth 100000 in
set_option maxHeartbeats 4000000 in
theorem open2_c (T : ByteArray) (h0 : 0 < T.size) (h1 : T.size ≤ 1000000) : Calls Tryz.prog 17 #[.string T] w fun e w' => (∃ ok,e = .returned (.bool ok) ∧ (ok = true → byteAt T 0 ≠ 123 ∧ byteAt T (T.size - 1) = 10)) ∧ w' = w := by
 have es := toList_some h0;obtain ⟨mz,hmz⟩ : ∃ mz,T.size = mz + 1 := ⟨T.size - 1,by omega⟩;go_enter Tryz.func17,Tryz.ntmps17;have hidx : (mz : Int) < (mz : Int) + 1 := by omega
 by_cases hx : ((T[0]'h0).toNat : Int) = 123
 ·go_wp2;go_ret;exact ⟨⟨_,rfl,fun h => by cases h⟩,rfl⟩
 ·have hmlt : mz < T.size := by omega
  go_wp2;go_ret;refine ⟨⟨_,rfl,fun h => ?_⟩,rfl⟩;rw [Bool.and_eq_true,beq_iff_eq] at h;refine ⟨fun e => ?_,?_⟩
  ·rw [← byteAt_get T 0 h0] at e;exact hx (by omega)
  ·rw [show T.size - 1 = mz from by omega,← byteAt_get T mz hmlt];have := h.2;omega
end
end Go.Cf
namespace Go.Cf
open Go.RowKit Go.Conc Go.Proofs
section
variable {w w1 w2 : World}
end
section
variable {w w1 w2 : World}
set_option maxRecDepth 100000 in
theorem open2_0 : Calls Tryz.prog 17 #[.string ⟨#[]⟩] w fun e w' => e = .returned (.bool true) ∧ w' = w := by
 go_enter Tryz.func17,Tryz.ntmps17;go_wp2;go_ret;exact ⟨rfl,rfl⟩
theorem open2_any (T : ByteArray) (h1 : T.size ≤ 1000000) : Calls Tryz.prog 17 #[.string T] w fun e w' => RetB e (T.size = 0 ∨ byteAt T 0 ≠ 123) ∧ w' = w := by
 rcases Nat.eq_zero_or_pos T.size with h0 | h0
 ·obtain rfl : T = ⟨#[]⟩ := by
   obtain ⟨⟨l⟩⟩ := T;have : l = [] := List.eq_nil_of_length_eq_zero h0;rw [this]
  refine open2_0.mono ?_;rintro e w' ⟨rfl,rfl⟩;exact ⟨RetB.yes (.inl rfl),rfl⟩
 ·refine (open2_c T h0 h1).mono ?_;rintro e w' ⟨⟨ok,rfl,h⟩,rfl⟩;exact ⟨⟨ok,rfl,fun h2 => .inr (h h2).1⟩,rfl⟩
end
section
variable {α : Type} {M N : List (ByteArray × α)} {x y : ByteArray × α} {q r q' : Nat}
theorem mrg_stepN (hx : M[q]? = some x) (h : r = N.length ∨ ∃ y,N[r]? = some y ∧ ltB x.1 y.1) : mrg (M.drop q) (N.drop r) = x :: mrg (M.drop (q + 1)) (N.drop r) := by
 rw [drop_cons hx];rcases h with rfl | ⟨y,hy,hl⟩
 ·rw [List.drop_length,mrg_nil,mrg_nil]
 ·rw [drop_cons hy,mrg_lt hl]
theorem mrg_stepM (hy : N[r]? = some y) (h : (q' = q + 1 ∧ ∃ x,M[q]? = some x ∧ x.1 = y.1) ∨ (q' = q ∧ (q = M.length ∨ ∃ x,M[q]? = some x ∧ bytesBefore x.1.data.toList y.1.data.toList = false ∧ x.1 ≠ y.1))) : mrg (M.drop q) (N.drop r) = y :: mrg (M.drop q') (N.drop (r + 1)) := by
 rw [drop_cons hy];rcases h with ⟨rfl,x,hx,he⟩ | ⟨rfl,rfl | ⟨x,hx,hb,hn⟩⟩
 ·rw [drop_cons hx,mrg_eq he]
 ·rw [List.drop_length];simp only [mrg]
 ·rw [drop_cons hx,mrg_gt hb hn]
end
section
variable {w w1 : World} {lab : Lab} {b : Nat} {D : List (ByteArray × JV)} {KA LA : Option Addr} {KC LC : Nat} {vals : List Value}
structure LoopS (w : World) (b : Nat) (D : List (ByteArray × JV)) (KA : Option Addr) (KC : Nat) (LA : Option Addr) (LC : Nat) (vals : List Value) (lab : Lab) (w1 : World) : Prop where
 cl : Cl 50 lab w1 b (ndC 6 0 0 false ⟨#[]⟩ (.slice KA D.length KC) (.slice LA D.length LC)) 26
 kr : Rw 0 51 lab w1 9 1 (.slice KA D.length KC) D.length (D.map fun x => .string x.1)
 lr : Rw 0 52 lab w1 26 7 (.slice LA D.length LC) D.length vals
 wt : WantRow w vals D
 mv : Mv KB5 w L0 w1 lab
theorem LoopS.below (h : LoopS w b D KA KC LA LC vals lab w1) : Below w.heap.size w w1 := h.mv.toBelow (Nat.le_refl _) (fun k _ h => by have : L0 k = 50 ∨ L0 k = 51 ∨ L0 k = 52 := h;have e : L0 k = 0 := rfl;omega)
theorem LoopS.new : LoopS w w.heap.size [] none 0 none 0 [] (L0.ext w.heap.size 50) (w.alloc (.cells (ndC 6 0 0 false ⟨#[]⟩ (.slice none 0 0) (.slice none 0 0)) 26)) :=
 ⟨Cl.alloc _ _ _ _ _,Rw.none _ _ _ _ _,Rw.none _ _ _ _ _,WantRow.nil,Mv.alloc _ _ _ _⟩
theorem LoopS.drewN (h : LoopS w b D KA KC LA LC vals lab w1) (n : Nat) : LoopS w b D KA KC LA LC vals lab (w1.drewN n) := by
 have m : Mv (fun _ => False) w1 lab (w1.drewN n) lab := (Mv.refl _ _ _).drewN n;exact ⟨h.cl.mv m (fun h => h),h.kr.mv m (fun h => h),h.lr.mv m (fun h => h),h.wt,h.mv.drewN n⟩
theorem LoopS.snoc {x : ByteArray × JV} {c : Array Value} {lab1 : Lab} {w2 : World} {kv lv : Value} (h : LoopS w b D KA KC LA LC vals lab w1) (hcl : Cl 50 lab1 w2 b (ndC 6 0 0 false ⟨#[]⟩ kv lv) 26) (hk : Rw 0 51 lab1 w2 9 1 kv (D.length + 1) ((D.map fun x => .string x.1) ++ [.string x.1])) (hl : Rw 0 52 lab1 w2 26 7 lv (D.length + 1) (vals ++ c.toList)) (hc : NdV 0 L0 w x.2 c) (m : Mv KB5 w1 lab w2 lab1) :
  ∃ KA KC LA LC,LoopS w b (D ++ [x]) KA KC LA LC (vals ++ c.toList) lab1 w2 := by
 obtain ⟨A,cc,rfl⟩ := hk.shape;obtain ⟨A2,cc2,rfl⟩ := hl.shape;refine ⟨A,cc,A2,cc2,?_,?_,?_,h.wt.app hc,h.mv.trans m (fun _ h => h)⟩
 ·rw [List.length_append];exact hcl
 ·rw [List.length_append,List.map_append];exact hk
 ·rw [List.length_append];exact hl
theorem sameL_all : ∀ {l : List JV},(∀ j ∈ l,JSame j.canon j) → JSameL (canonL l) l
 | [],_ => by simp only [canonL,JSameL]
 | j :: r,h => by
  simp only [canonL,JSameL];exact ⟨h j (List.mem_cons_self ..),sameL_all fun x hx => h x (List.mem_cons_of_mem _ hx)⟩
theorem sameL_mem : ∀ {l : List JV},JSameL (canonL l) l → ∀ j ∈ l,JSame j.canon j
 | [],_,j,h => by cases h
 | x :: r,h,j,hj => by
  simp only [canonL,JSameL] at h;rcases List.mem_cons.1 hj with rfl | hj
  ·exact h.1
  ·exact sameL_mem h.2 j hj
theorem eqL (a b : ByteArray) : (a.toList == b.toList) = decide (a = b) := by
 rw [Lib.toList_data,Lib.toList_data];by_cases h : a = b
 ·rw [decide_eq_true h,h];simp
 ·rw [decide_eq_false h];exact bytes_ne h
theorem elem_at {ks : List ByteArray} {l : List JV} {a1 a2 : Option Addr} {q : Nat} {x : ByteArray × JV} (hk : KsIn 0 L0 w a1 ks) (hl : NdVs 0 L0 w a2 0 l) (hq : (ks.zip l)[q]? = some x) :
  ∃ (ad ad2 : Addr) (cx : Array Value),a1 = some ad ∧ a2 = some ad2 ∧ w.cell? (ad.add q) = some (.string x.1) ∧ cell7 w ad2 q cx ∧ NdV 0 L0 w x.2 cx := by
 obtain ⟨h1,h2⟩ : ks[q]? = some x.1 ∧ l[q]? = some x.2 := by
  rw [List.getElem?_zip_eq_some] at hq;exact hq
 obtain ⟨ad,rfl,_,h3⟩ := hk q _ h1;obtain ⟨ad2,cx,rfl,_,h4,h5⟩ := hl.get h2;rw [Nat.zero_add] at h4;exact ⟨ad,ad2,cx,rfl,rfl,h3,h4,h5⟩
end
end Go.Cf
