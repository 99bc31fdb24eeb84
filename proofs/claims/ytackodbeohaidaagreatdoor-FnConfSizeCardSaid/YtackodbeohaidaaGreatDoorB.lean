/-
  A region that draws its order, whose last operation is a send: in whatever order its reads come, the send comes last. No program in sight.
-/
import Derived.Test.YtackodbeohaidaaGreatDoorA
namespace Go.Cf
open Go.Conc
section
variable {P : Program} {ops : Array Oper} {Q : Exit → Act → World → Prop} {a : Act} {w : World} {i : Nat} {rest : List Nat} {o : Oper}
theorem Lst.value {v : Value} {w' : World} (ho : ops[i]? = some o) (hw : Region.wanted o (yielded ops a.tmps) = true) (hr : (execOp a.eval o).run P w = .ok (.value v) w')
    (h : Lst P ops Q rest (a.put o.dst v) w') : Lst P ops Q (i :: rest) a w := by
  intro b k cs hb
  obtain ⟨e, a', w'', hq, harr⟩ := h b k cs hb
  refine ⟨e, a', w'', hq, .of_steps (.one (step_lone_go ?_)) harr⟩
  have hfin := Frame.finish_at b a ops i rest k v
  rw [ho] at hfin
  have hfin' : (b.at a (.inRegion ops (i :: rest) :: k)).finish v = b.at (a.put o.dst v) (.inRegion ops rest :: k) := hfin
  rw [stepG_op ho hw, ← hfin']
  simp [stepG.apply, hr]
theorem Lst.skip {w' : World} (ho : ops[i]? = some o) (hw : Region.wanted o (yielded ops a.tmps) = true) (hr : (execOp a.eval o).run P w = .ok .skip w')
    (h : Lst P ops Q rest (a.put o.dst undef) w') : Lst P ops Q (i :: rest) a w := by
  intro b k cs hb
  obtain ⟨e, a', w'', hq, harr⟩ := h b k cs hb
  refine ⟨e, a', w'', hq, .of_steps (.one (step_lone_go ?_)) harr⟩
  have hfin := Frame.finish_at b a ops i rest k undef
  rw [ho] at hfin
  have hfin' : (b.at a (.inRegion ops (i :: rest) :: k)).finish undef = b.at (a.put o.dst undef) (.inRegion ops rest :: k) := hfin
  rw [stepG_op ho hw, ← hfin']
  simp [stepG.apply, hr]
theorem Lst.enter {f : FuncId} {args : Array Value} {w' : World} (ho : ops[i]? = some o) (hw : Region.wanted o (yielded ops a.tmps) = true) (hr : (execOp a.eval o).run P w = .ok (.enter f args) w')
    (hc : Calls P f args w' fun e w'' => ∃ v, e = .returned v ∧ Lst P ops Q rest (a.put o.dst v) w'') : Lst P ops Q (i :: rest) a w := by
  intro b k cs hb
  obtain ⟨e, w'', fr, ⟨v, rfl, hl⟩, hsteps, _, hleave⟩ := hc (b.at a (.inRegion ops (i :: rest) :: k) :: cs)
  have hfin := Frame.finish_at b a ops i rest k v
  rw [ho] at hfin
  have hfin' : (b.at a (.inRegion ops (i :: rest) :: k)).finish v = b.at (a.put o.dst v) (.inRegion ops rest :: k) := hfin
  have henter : step P (lone (b.at a (.inRegion ops (i :: rest) :: k)) cs w) = .next (lone (Frame.enter P f args .normal) (b.at a (.inRegion ops (i :: rest) :: k) :: cs) w') :=
    step_lone_go (by rw [stepG_op ho hw]; simp [stepG.apply, hr, Frame.at])
  obtain ⟨e, a', w₃, hq, harr⟩ := hl b k cs hb
  refine ⟨e, a', w₃, hq, .of_steps (.head henter (hsteps.trans (.one ?_))) harr⟩
  rw [← hfin']; exact step_leave_returned hleave
/-- One still operation. -/
theorem Lst.still {K : Act → Prop} (ho : ops[i]? = some o) (hg : o.guard = none) (h : o.still P a w K) (hK : ∀ a', K a' → Lst P ops Q rest a' w) : Lst P ops Q (i :: rest) a w := by
  have hw : Region.wanted o (yielded ops a.tmps) = true := by simp [Region.wanted, hg]
  unfold Oper.still at h
  generalize hr : (execOp a.eval o).run P w = r at h
  cases r with
  | ok n w' =>
    cases n <;> simp only [Oper.stillUpon] at h
    case value v => obtain ⟨rfl, h2⟩ := h; exact Lst.value ho hw hr (hK _ h2)
    case skip => obtain ⟨rfl, h2⟩ := h; exact Lst.skip ho hw hr (hK _ h2)
    case enter f args =>
      obtain ⟨rfl, v, hc, h2⟩ := h
      exact Lst.enter ho hw hr (hc.mono fun e w'' ⟨he, hw⟩ => ⟨v, he, by rw [hw]; exact hK _ h2⟩)
  | halt x w' => simp only [Oper.stillUpon] at h
end
theorem countP_lt {p q : Nat → Bool} {l : List Nat} (hpq : ∀ x, p x = true → q x = true) {x : Nat} (hx : x ∈ l) (hp : p x = false) (hq : q x = true) : l.countP p < l.countP q := by
  have hle : ∀ m : List Nat, m.countP p ≤ m.countP q := by
    intro m
    induction m with
    | nil => simp
    | cons y m ih =>
      rw [List.countP_cons, List.countP_cons]
      by_cases h : p y = true
      · rw [if_pos h, if_pos (hpq y h)]; omega
      · rw [if_neg h]; split <;> omega
  induction l with
  | nil => cases hx
  | cons y l ih =>
    rw [List.countP_cons, List.countP_cons]
    have := hle l
    rcases List.mem_cons.1 hx with rfl | hx
    · rw [if_neg (by simp [hp]), if_pos hq]; omega
    · have h2 := ih hx
      by_cases h : p y = true
      · rw [if_pos h, if_pos (hpq y h)]; omega
      · rw [if_neg h]; split <;> omega
/-- Edges lead back alone. -/
def edgesBack (ops : Array Oper) : Bool := ops.toList.zipIdx.all fun (o, i) => o.after.all fun e => decide (e.on < i)
theorem edgesBack_spec {ops : Array Oper} (h : edgesBack ops = true) {i : Nat} {o : Oper} (ho : ops[i]? = some o) : ∀ e ∈ o.after, e.on < i := by
  intro e he
  have h1 := List.all_eq_true.1 h (o, i) (by
    rw [List.mk_mem_zipIdx_iff_getElem?]
    simpa using ho)
  have h2 := Array.all_eq_true'.1 h1 e he
  simpa using h2
section
variable {P : Program} {ops ops' : Array Oper} {Q : Exit → Act → World → Prop} {F : Act → Prop} {w : World} {n : Nat} {o o' : Oper}
theorem ready_some {md : Region.Mode} {listed : Array Bool} (hsz : listed.size = ops'.size) (hb : edgesBack ops' = true) : ∀ (d i : Nat), i = d → i < ops'.size → listed.getD i true = false → Region.ready md ops' listed ≠ [] := by
  intro d
  induction d using Nat.strongRecOn with
  | _ d ih =>
    intro i hi hlt hun hnil
    have hne : i ∉ Region.ready md ops' listed := by rw [hnil]; simp
    have ho : ops'[i]? = some ops'[i] := by simp [hlt]
    by_cases hall : ∀ e ∈ (ops'[i]).after, Region.binds md e = true → listed.getD e.on false = true
    · exact hne (mem_ready.2 ⟨hun, _, ho, hall⟩)
    · simp only [Classical.not_forall] at hall
      obtain ⟨e, he, hbd, hl⟩ := hall
      have hlt2 := edgesBack_spec hb ho e he
      refine ih e.on (by omega) e.on rfl (by omega) ?_ hnil
      have : e.on < listed.size := by omega
      simp [this] at hl ⊢
      exact hl
theorem lst_of_still (ho : ops[n]? = some o) (ho' : ops'[n]? = some o') (hd : o'.dst = none) (hgs : ∀ (i : Nat) (x : Oper), ops'[i]? = some x → x.guard = none)
    (hsame : ∀ i : Nat, i ≠ n → ops'[i]? = ops[i]?) (hsz : ops'.size = n + 1) (hb : edgesBack ops' = true)
    (hs : Region.sinkB .any ops' n = true) (hc : Region.chainB .any ops' n = true) (hF : ∀ a', F a' → Lst P ops Q [n] a' w) :
    ∀ (fuel t : Nat) (listed : Array Bool) (a : Act), HeadInv .any ops' n listed → listed.getD n true = false → (List.range ops'.size).countP (fun i => !listed.getD i true) ≤ fuel →
      wpAnyS P .any ops' w F fuel listed a → Lst P ops Q (Region.linearise.go .any ops' fuel t listed []) a w := by
  intro fuel
  induction fuel with
  | zero =>
    intro t listed a inv hun hcnt _
    exfalso
    have : 0 < (List.range ops'.size).countP (fun i => !listed.getD i true) := by
      rw [List.countP_pos_iff]
      exact ⟨n, List.mem_range.2 (by omega), by simp only [hun]; rfl⟩
    omega
  | succ fuel ih =>
    intro t listed a inv hun hcnt h
    obtain ⟨_, h₁⟩ := h
    simp only [Region.linearise.go]
    change Lst P ops Q (match (Region.ready .any ops' listed)[t % (Region.ready .any ops' listed).length]? with
      | some i => Region.linearise.go .any ops' fuel (t / (Region.ready .any ops' listed).length) (listed.setIfInBounds i true) [i]
      | none => [].reverse) a w
    cases hi : (Region.ready .any ops' listed)[t % (Region.ready .any ops' listed).length]? with
    | none =>
      exfalso
      refine ready_some (md := .any) inv.size hb n n rfl (by omega) hun ?_
      cases hr : Region.ready .any ops' listed with
      | nil => rfl
      | cons x xs =>
        rw [hr] at hi
        have hlt : t % (x :: xs).length < (x :: xs).length := Nat.mod_lt _ (by simp)
        simp at hi
        simp at hlt
        omega
    | some i =>
      simp only []
      rw [linearise_go_acc, List.reverse_singleton, List.singleton_append]
      have hir := List.mem_of_getElem? hi
      have hst := h₁ i hir
      obtain ⟨hiun, oi, hoi, _⟩ := mem_ready.1 hir
      have hilt : i < ops'.size := (Array.getElem?_eq_some_iff.1 hoi).1
      by_cases hin : i = n
      · subst hin
        have hall : ∀ j, j < i → listed.getD j true = true := by
          intro j hj
          cases hj2 : listed.getD j true with
          | true => rfl
          | false => exact absurd hir (tail_waits hs hc (by omega) inv (i - j) j rfl hj hj2 i (Nat.le_refl _))
        have hnil : ∀ fuel t, Region.linearise.go .any ops' fuel t (listed.setIfInBounds i true) [] = [] := by
          intro fuel t
          have hrn : Region.ready .any ops' (listed.setIfInBounds i true) = [] := by
            cases hr : Region.ready .any ops' (listed.setIfInBounds i true) with
            | nil => rfl
            | cons x xs =>
              exfalso
              have hx : x ∈ Region.ready .any ops' (listed.setIfInBounds i true) := by rw [hr]; simp
              obtain ⟨hxun, ox, hox, _⟩ := mem_ready.1 hx
              have hxlt : x < ops'.size := (Array.getElem?_eq_some_iff.1 hox).1
              by_cases hxi : i = x
              · subst hxi
                have : i < listed.size := by rw [inv.size]; exact hilt
                simp [this] at hxun
              · rw [getD_set_ne true hxi, hall x (by omega)] at hxun
                cases hxun
          cases fuel with
          | zero => simp [Region.linearise.go]
          | succ f =>
            simp only [Region.linearise.go]
            change (match (Region.ready .any ops' (listed.setIfInBounds i true))[t % (Region.ready .any ops' (listed.setIfInBounds i true)).length]? with
              | some i' => _
              | none => [].reverse) = []
            rw [hrn]
            rfl
        rw [hnil]
        refine hF a ?_
        have hrn2 : Region.ready .any ops' (listed.setIfInBounds i true) = [] := by
          cases hr : Region.ready .any ops' (listed.setIfInBounds i true) with
          | nil => rfl
          | cons x xs =>
            exfalso
            have hx : x ∈ Region.ready .any ops' (listed.setIfInBounds i true) := by rw [hr]; simp
            obtain ⟨hxun, ox, hox, _⟩ := mem_ready.1 hx
            have hxlt : x < ops'.size := (Array.getElem?_eq_some_iff.1 hox).1
            by_cases hxi : i = x
            · subst hxi
              have : i < listed.size := by rw [inv.size]; exact hilt
              simp [this] at hxun
            · rw [getD_set_ne true hxi, hall x (by omega)] at hxun
              cases hxun
        have hK : ∀ a', wpAnyS P .any ops' w F fuel (listed.setIfInBounds i true) a' → F a' := by
          intro a' h'
          cases fuel with
          | zero => exact h'.2
          | succ f => exact h'.1 hrn2
        have hoi' : oi = o' := Option.some.inj (hoi.symm.trans ho')
        unfold stOp at hst
        simp only [hoi] at hst
        rw [if_pos (by simp [Region.wanted, hgs i oi hoi])] at hst
        unfold Oper.still at hst
        generalize (execOp a.eval oi).run P w = r at hst
        have hput : ∀ v, a.put oi.dst v = a := by intro v; rw [hoi', hd]; rfl
        cases r with
        | ok m w' =>
          cases m <;> simp only [Oper.stillUpon] at hst
          case value v => rw [hput] at hst; exact hK _ hst.2
          case skip => rw [hput] at hst; exact hK _ hst.2
          case enter f args => obtain ⟨_, v, _, h3⟩ := hst; rw [hput] at h3; exact hK _ h3
        | halt x w' => simp only [Oper.stillUpon] at hst
      · have hin2 : i < n := by omega
        have hoi2 : ops[i]? = some oi := by rw [← hsame i hin]; exact hoi
        unfold stOp at hst
        simp only [hoi] at hst
        rw [if_pos (by simp [Region.wanted, hgs i oi hoi])] at hst
        refine Lst.still hoi2 (hgs i oi hoi) hst fun a' ha' => ih _ _ a' (inv.set hir hin2) ?_ ?_ ha'
        · rw [getD_set_ne true hin]; exact hun
        · have hlt := countP_lt (p := fun j => !(listed.setIfInBounds i true).getD j true) (q := fun j => !listed.getD j true) (l := List.range ops'.size) (x := i) ?_ (List.mem_range.2 hilt) ?_ ?_
          · omega
          · intro x hx
            by_cases hxi : i = x
            · subst hxi
              have : i < listed.size := by rw [inv.size]; exact hilt
              simp [this] at hx
            · rw [getD_set_ne true hxi] at hx; exact hx
          · have : i < listed.size := by rw [inv.size]; exact hilt
            simp [this]
          · simp only [hiun]; rfl
theorem linearise_same (h : ∀ i : Nat, (ops'[i]?).map (fun (x : Oper) => x.after) = (ops[i]?).map (fun (x : Oper) => x.after)) (hsz : ops'.size = ops.size) : ∀ (fuel t : Nat) (listed : Array Bool) (acc : List Nat),
    Region.linearise.go .any ops' fuel t listed acc = Region.linearise.go .any ops fuel t listed acc := by
  intro fuel
  induction fuel with
  | zero => intro t listed acc; simp [Region.linearise.go]
  | succ fuel ih =>
    intro t listed acc
    have hr : Region.ready .any ops' listed = Region.ready .any ops listed := by
      unfold Region.ready
      rw [hsz]
      refine List.filter_congr fun i _ => ?_
      have := h i
      cases h1 : ops'[i]? <;> cases h2 : ops[i]? <;> simp_all
    simp only [Region.linearise.go]
    change (match (Region.ready .any ops' listed)[t % (Region.ready .any ops' listed).length]? with
      | some i => Region.linearise.go .any ops' fuel (t / (Region.ready .any ops' listed).length) (listed.setIfInBounds i true) (i :: acc)
      | none => acc.reverse) = (match (Region.ready .any ops listed)[t % (Region.ready .any ops listed).length]? with
      | some i => Region.linearise.go .any ops fuel (t / (Region.ready .any ops listed).length) (listed.setIfInBounds i true) (i :: acc)
      | none => acc.reverse)
    rw [hr]
    cases (Region.ready .any ops listed)[t % (Region.ready .any ops listed).length]? with
    | none => rfl
    | some i => exact ih _ _ _
/-- The operations of a region whose last one is a send, a plain move in its place. -/
def unsent (l : List Oper) (n : Nat) : List Oper := l.modify n fun o => { o with op := .move (.const undef), dst := none }
def sendOk (l : List Oper) (n : Nat) : Bool :=
  Region.lexB .any (unsent l n).toArray && Region.sinkB .any (unsent l n).toArray n && Region.chainB .any (unsent l n).toArray n && edgesBack (unsent l n).toArray &&
    decide (l.length = n + 1) && (unsent l n).all fun o => o.guard.isNone
theorem wpN_still_send {id : Nat} {a : Act} {l : List Oper} (n : Nat) (hm : P.follows .mixedOrders = true) (hB : sendOk l n = true)
    (h : wpStill P (unsent l n).toArray { w with drawn := w.drawn + 1 } (fun a' => Lst P l.toArray Q [n] a' { w with drawn := w.drawn + 1 }) (unsent l n) a) : wpN P (.region id l.toArray true) Q a w := by
  simp only [sendOk, Bool.and_eq_true, decide_eq_true_eq] at hB
  obtain ⟨⟨⟨⟨⟨h1, h2⟩, h3⟩, h4⟩, h5⟩, h6⟩ := hB
  have hget : ∀ i : Nat, (unsent l n)[i]? = if n = i then (l[i]?).map (fun o => { o with op := .move (.const undef), dst := none }) else l[i]? := by
    intro i; unfold unsent; rw [List.getElem?_modify]; split <;> simp_all
  have hlen : (unsent l n).length = n + 1 := by simp [unsent, h5]
  have hsame : ∀ i : Nat, i ≠ n → (unsent l n).toArray[i]? = l.toArray[i]? := by
    intro i hi; simp only [List.getElem?_toArray]; rw [hget, if_neg (fun e => hi e.symm)]
  have hn : l[n]? = some (l[n]'(by omega)) := by simp [h5]
  have hafter : ∀ i : Nat, ((unsent l n).toArray[i]?).map (fun (x : Oper) => x.after) = (l.toArray[i]?).map (fun (x : Oper) => x.after) := by
    intro i; simp only [List.getElem?_toArray]; rw [hget]; split <;> simp [Option.map_map]; rfl
  have hgs : ∀ (i : Nat) (x : Oper), (unsent l n).toArray[i]? = some x → x.guard = none := by
    intro i x hx
    simp only [List.getElem?_toArray] at hx
    have := List.all_eq_true.1 h6 x (List.mem_of_getElem? hx)
    simpa using this
  refine Lst.draw fun t => ?_
  simp only [Region.schedule, hm, Bool.true_or, if_true, Region.linearise]
  rw [← linearise_same hafter (by simp [unsent])]
  simp only [Region.lexB, Bool.and_eq_true] at h1
  have hlx := wpAnyS_lex (P := P) (md := .any) (w := { w with drawn := w.drawn + 1 }) (Q := fun a' => Lst P l.toArray Q [n] a' { w with drawn := w.drawn + 1 }) h1.1 (unsent l n) 0 (Array.replicate (unsent l n).toArray.size false) a (by simp) (by simpa using h1.2) h
  have hsz : l.toArray.size = (unsent l n).length := by simp [unsent]
  rw [hsz]
  refine lst_of_still (o := l[n]'(by omega)) (o' := { l[n]'(by omega) with op := .move (.const undef), dst := none }) (by simp [h5]) (by simp only [List.getElem?_toArray]; rw [hget, if_pos rfl, hn]; rfl) rfl hgs hsame (by simp [hlen]) h4 h2 h3 (fun _ h => h)
    (unsent l n).length t _ a ?_ ?_ ?_ ?_
  · refine ⟨by simp, fun j oj hj hl => ?_, fun t ht ht' => ?_⟩
    · rw [getD_replicate_false] at hl; cases hl
    · have : t < (unsent l n).length := by simpa using ht'
      simp [this]
  · simp [hlen]
  · exact Nat.le_trans List.countP_le_length (by simp)
  · simpa [unsent] using hlx
end
end Go.Cf
