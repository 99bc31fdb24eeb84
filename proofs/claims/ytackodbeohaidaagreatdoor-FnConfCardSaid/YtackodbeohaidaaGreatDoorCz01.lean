/-
  Texts joined: A B C D E F G H.
-/
import Derived.Conc.LoneCalls
import Derived.Conc.LoneSelect
import Derived.WalkKit
import Derived.StillTail
import Derived.WalkSpells
import Derived.WalkLawsBesides
import Derived.BigQuiet
import Derived.Deep.QuietTactic
import Derived.Lib.Hide
import Derived.StillTailTactics
import Derived.Lib.IndexBytes
import Derived.Test.YtackodbeohaidaaGreatDoorProg
import Derived.Outline
import Derived.Maps.AppendAt
import Derived.Deep.AppendLies
namespace Go.Cf
theorem bqf {α : Type _} [BEq α] [LawfulBEq α] {a b : α} (h : a ≠ b) : (a == b) = false := beq_eq_false_iff_ne.2 h
theorem gdg {α : Type _} {xs : Array α} {i : Nat} {d : α} : xs.getD i d = xs[i]?.getD d := Array.getD_eq_getD_getElem?
theorem bsa {a b : ByteArray} : (a ++ b).size = a.size + b.size := ByteArray.size_append
theorem aI {a b : Prop} (x : a) (y : b) : a ∧ b := ⟨x, y⟩
end Go.Cf
namespace Go.Cf
open Go.Conc
def wpN (P : Program) (c : Code) (Q : Exit → Act → World → Prop) (a : Act) (w : World) : Prop :=
 ∀ (b : Frame) (k : List Item) (cs : List Frame), b.kind = .normal → ∃ e a' w', Q e a' w' ∧ Arrives P (lone (b.at a (.code c :: k)) cs w) b k cs e a' w'
section
variable {P : Program} {Q : Exit → Act → World → Prop} {a : Act} {w : World}
theorem wpN_of_wp {c : Code} (h : c.wp P Q a w) : wpN P c Q a w := fun b k cs _ => h b k cs
theorem wpN_seq {x y : Code} (h : wpN P x (Exit.then (wpN P y Q) Q) a w) : wpN P (.seq x y) Q a w := by
 intro b k cs hb; obtain ⟨e, a₁, w₁, hq, harr⟩ := h b (.code y :: k) cs hb
 cases e with
 | normal =>
  obtain ⟨e₂, a₂, w₂, hq₂, harr₂⟩ := hq b k cs hb; exact ⟨e₂, a₂, w₂, hq₂, .of_steps (.head step_seq harr) harr₂⟩
 | exit id => exact ⟨_, a₁, w₁, hq, .of_steps (.one step_seq) (.pass (x := .code y) rfl (fun _ _ => .inl (by simp)) harr)⟩
 | goto l => exact ⟨_, a₁, w₁, hq, .of_steps (.one step_seq) (.pass (x := .code y) rfl (fun _ _ => .inl (by simp)) harr)⟩
 | ret => exact ⟨_, a₁, w₁, hq, .of_steps (.one step_seq) (.pass (x := .code y) rfl (fun _ _ => .inl (by simp)) harr)⟩
 | panic ch => exact ⟨_, a₁, w₁, hq, .of_steps (.one step_seq) (.pass (x := .code y) rfl (fun _ _ => .inl (by simp)) harr)⟩
 | outgrown => exact ⟨_, a₁, w₁, hq, .of_steps (.one step_seq) (.pass (x := .code y) rfl (fun _ _ => .inl (by simp)) harr)⟩
theorem wpN_seq_k {x y : Code} (h : ∀ K : Act → World → Prop, (∀ a w, wpN P y Q a w → K a w) → x.wp P (Exit.then K Q) a w) : wpN P (.seq x y) Q a w :=
 wpN_seq (wpN_of_wp (h _ fun _ _ h => h))
theorem wpN_block {id : Nat} {c : Code} (h : wpN P c (Exit.inBlock id Q) a w) : wpN P (.block id c) Q a w := by
 intro b k cs hb; obtain ⟨e, a₁, w₁, hq, harr⟩ := h b (.inBlock id :: k) cs hb
 cases e with
 | normal => exact ⟨.normal, a₁, w₁, hq, .head step_block (Steps.trans harr (.one step_inBlock))⟩
 | exit id' =>
  by_cases hid : id' = id
  ·simp only [Exit.inBlock, hid, if_true] at hq
   exact ⟨.normal, a₁, w₁, hq, .head step_block (harr k (by simp [exitTo, hid]))⟩
  ·simp only [Exit.inBlock, hid, if_false] at hq
   refine ⟨.exit id', a₁, w₁, hq, fun k' hk => .head step_block (harr k' ?_)⟩
   have : (id == id') = false := by simp; exact fun h => hid h.symm
   simp [exitTo, this, hk]
 | goto l => exact ⟨_, a₁, w₁, hq, fun k' hk => .head step_block (harr k' (by simp [gotoIn, hk]))⟩
 | ret => exact ⟨_, a₁, w₁, hq, .of_steps (.one step_block) harr⟩
 | panic ch => exact ⟨_, a₁, w₁, hq, .of_steps (.one step_block) harr⟩
 | outgrown => exact ⟨_, a₁, w₁, hq, .of_steps (b := b) (k := k) (cs := cs) (e := .outgrown) (.one step_block) harr⟩
theorem calls_of_wpN {f : FuncId} {fn : Func} {c : Code} {args : Array Value} {w : World} {R : Ending → World → Prop}
  (hf : P.funcs[f]? = some fn) (hb : fn.body = some c)
  (h : wpN P c (bodyPost P fn R) { tmps := args ++ Array.replicate (fn.ntmps - args.size) undef, defers := [] } w) : Calls P f args w R := by
 intro cs
 let b : Frame := { (default : Frame) with fn := f, kind := .normal }
 have henter : Frame.enter P f args .normal =
   b.at { tmps := args ++ Array.replicate (fn.ntmps - args.size) undef, defers := [] } [.code c] := by
  simp [Frame.enter, Frame.at, hf, hb, b]
 obtain ⟨e, a', w', hq, harr⟩ := h b [] cs rfl
 rw [← henter] at harr
 cases e with
 | normal =>
  obtain ⟨hd, v, hr, hR⟩ := hq; exact ⟨.returned v, w', _, hR, Steps.trans harr (.one step_end), rfl, rfl, hd, rfl, fn, hf, hr⟩
 | ret =>
  obtain ⟨hd, v, hr, hR⟩ := hq; obtain ⟨todo, hs⟩ := harr; exact ⟨.returned v, w', _, hR, hs, rfl, rfl, hd, rfl, fn, hf, hr⟩
 | panic chain =>
  obtain ⟨hd, hR⟩ := hq; obtain ⟨todo, hs⟩ := harr; exact ⟨.panicked chain, w', _, hR, hs, rfl, rfl, hd, fn, hf⟩
 | exit id => exact hq.elim
 | goto l => exact hq.elim
 | outgrown => exact ⟨.outgrown, w', b, hq, harr.resolve_left (by simp [b]), rfl, trivial⟩
def Lst (P : Program) (ops : Array Oper) (Q : Exit → Act → World → Prop) (l : List Nat) (a : Act) (w : World) : Prop :=
 ∀ (b : Frame) (k : List Item) (cs : List Frame), b.kind = .normal → ∃ e a' w', Q e a' w' ∧ Arrives P (lone (b.at a (.inRegion ops l :: k)) cs w) b k cs e a' w'
variable {ops : Array Oper}
theorem Lst.plain {l : List Nat} (h : wpOps P ops Q l a w) : Lst P ops Q l a w := fun b k cs _ => wp_ops l a w h b k cs
theorem Lst.nil (h : Q .normal a w) : Lst P ops Q [] a w := fun _ _ _ _ => ⟨.normal, a, w, h, .one step_region_end⟩
theorem Lst.region {id : Nat} (h : Lst P ops Q (List.range ops.size) a w) : wpN P (.region id ops false) Q a w :=
 fun b k cs hb => let ⟨e, a', w', q, r⟩ := h b k cs hb; ⟨e, a', w', q, .of_steps (.one step_region) r⟩
theorem Lst.draw {id : Nat} (h : ∀ t, Lst P ops Q (Region.schedule (P.follows .mixedOrders) ops t) a { w with drawn := w.drawn + 1 }) : wpN P (.region id ops true) Q a w :=
 fun b k cs hb => let ⟨e, a', w', q, r⟩ := h _ b k cs hb; ⟨e, a', w', q, .of_steps (.one step_region_draw) r⟩
theorem Lst.send {i : Nat} {rest : List Nat} {o : Oper} {c cap s r : Nat} {buf : Array Value} {tm : Bool} {v z : Value} (ho : ops[i]? = some o) (hg : o.guard = none)
  (hr : (execOp a.eval o).run P w = .ok (.comm #[scase c v z] true .send) w) (hc : w.heap[c]? = some (.chan cap buf false s r tm)) (hroom : buf.size < cap)
  (h : Lst P ops Q rest (a.put o.dst undef) (w.setChan c cap (buf.push v) false (s + 1) r tm)) : Lst P ops Q (i :: rest) a w := by
 intro b k cs hb; obtain ⟨e, a', w', hq, harr⟩ := h b k cs hb; refine ⟨e, a', w', hq, .of_steps (.one ?_) harr⟩
 have hw : Region.wanted o (yielded ops a.tmps) = true := by simp [Region.wanted, hg]
 have h1 := stepG_comm (P := P) (main := true) (k := k) (cs := cs) (rest := rest) ho hw (b := b) (by rw [hb]; simp) hr
 have h2 := step_lone_send_room h1 hc hroom; rw [lone_eq_solo, h2, Frame.finish_at, ho]
 rfl
theorem Lst.select_got {i : Nat} {rest : List Nat} {o : Oper} {c cap s r : Nat} {buf : Array Value} {tm cl : Bool} {z : Value} (ho : ops[i]? = some o) (hg : o.guard = none)
  (hr : (execOp a.eval o).run P w = .ok (.comm #[rcase c z] false .select) w) (hc : w.heap[c]? = some (.chan cap buf cl s r tm)) (hsome : 0 < buf.size)
  (h : Lst P ops Q rest (a.put o.dst (.tuple #[goInt 0, .bool true, buf.getD 0 undef])) (w.setChan c cap (buf.extract 1 buf.size) cl s (r + 1) tm)) : Lst P ops Q (i :: rest) a w := by
 intro b k cs hb; obtain ⟨e, a', w', hq, harr⟩ := h b k cs hb; refine ⟨e, a', w', hq, .of_steps (.one ?_) harr⟩
 have hw : Region.wanted o (yielded ops a.tmps) = true := by simp [Region.wanted, hg]
 have h1 := stepG_comm (P := P) (main := true) (k := k) (cs := cs) (rest := rest) ho hw (b := b) (by rw [hb]; simp) hr
 have h2 := step_lone_select_recv_buf h1 hc hsome; rw [lone_eq_solo, h2, Frame.finish_at, ho]
 rfl
theorem Lst.select_default {i : Nat} {rest : List Nat} {o : Oper} {c cap s r : Nat} {tm : Bool} {z : Value} (ho : ops[i]? = some o) (hg : o.guard = none)
  (hr : (execOp a.eval o).run P w = .ok (.comm #[rcase c z] false .select) w) (hc : w.heap[c]? = some (.chan cap #[] false s r tm))
  (h : Lst P ops Q rest (a.put o.dst (.tuple #[goInt (-1), .bool false, z])) w) : Lst P ops Q (i :: rest) a w := by
 intro b k cs hb; obtain ⟨e, a', w', hq, harr⟩ := h b k cs hb; refine ⟨e, a', w', hq, .of_steps (.one ?_) harr⟩
 have hw : Region.wanted o (yielded ops a.tmps) = true := by simp [Region.wanted, hg]
 have h1 := stepG_comm (P := P) (main := true) (k := k) (cs := cs) (rest := rest) ho hw (b := b) (by rw [hb]; simp) hr
 have h2 := step_lone_select_default h1 hc; rw [lone_eq_solo, h2, Frame.finish_at, ho]
 rfl
end
end Go.Cf
namespace Go.Cf
open Go.Conc
section
variable {P : Program} {ops : Array Oper} {Q : Exit → Act → World → Prop} {a : Act} {w : World} {i : Nat} {rest : List Nat} {o : Oper}
theorem Lst.value {v : Value} {w' : World} (ho : ops[i]? = some o) (hw : Region.wanted o (yielded ops a.tmps) = true) (hr : (execOp a.eval o).run P w = .ok (.value v) w')
  (h : Lst P ops Q rest (a.put o.dst v) w') : Lst P ops Q (i :: rest) a w := by
 intro b k cs hb; obtain ⟨e, a', w'', hq, harr⟩ := h b k cs hb; refine ⟨e, a', w'', hq, .of_steps (.one (step_lone_go ?_)) harr⟩
 have hfin := Frame.finish_at b a ops i rest k v; rw [ho] at hfin; have hfin' : (b.at a (.inRegion ops (i :: rest) :: k)).finish v = b.at (a.put o.dst v) (.inRegion ops rest :: k) := hfin
 rw [stepG_op ho hw, ← hfin']; simp [stepG.apply, hr]
theorem Lst.skip {w' : World} (ho : ops[i]? = some o) (hw : Region.wanted o (yielded ops a.tmps) = true) (hr : (execOp a.eval o).run P w = .ok .skip w')
  (h : Lst P ops Q rest (a.put o.dst undef) w') : Lst P ops Q (i :: rest) a w := by
 intro b k cs hb; obtain ⟨e, a', w'', hq, harr⟩ := h b k cs hb; refine ⟨e, a', w'', hq, .of_steps (.one (step_lone_go ?_)) harr⟩
 have hfin := Frame.finish_at b a ops i rest k undef; rw [ho] at hfin; have hfin' : (b.at a (.inRegion ops (i :: rest) :: k)).finish undef = b.at (a.put o.dst undef) (.inRegion ops rest :: k) := hfin
 rw [stepG_op ho hw, ← hfin']; simp [stepG.apply, hr]
theorem Lst.enter {f : FuncId} {args : Array Value} {w' : World} (ho : ops[i]? = some o) (hw : Region.wanted o (yielded ops a.tmps) = true) (hr : (execOp a.eval o).run P w = .ok (.enter f args) w')
  (hc : Calls P f args w' fun e w'' => ∃ v, e = .returned v ∧ Lst P ops Q rest (a.put o.dst v) w'') : Lst P ops Q (i :: rest) a w := by
 intro b k cs hb; obtain ⟨e, w'', fr, ⟨v, rfl, hl⟩, hsteps, _, hleave⟩ := hc (b.at a (.inRegion ops (i :: rest) :: k) :: cs)
 have hfin := Frame.finish_at b a ops i rest k v; rw [ho] at hfin; have hfin' : (b.at a (.inRegion ops (i :: rest) :: k)).finish v = b.at (a.put o.dst v) (.inRegion ops rest :: k) := hfin
 have henter : step P (lone (b.at a (.inRegion ops (i :: rest) :: k)) cs w) = .next (lone (Frame.enter P f args .normal) (b.at a (.inRegion ops (i :: rest) :: k) :: cs) w') :=
  step_lone_go (by rw [stepG_op ho hw]; simp [stepG.apply, hr, Frame.at])
 obtain ⟨e, a', w₃, hq, harr⟩ := hl b k cs hb; refine ⟨e, a', w₃, hq, .of_steps (.head henter (hsteps.trans (.one ?_))) harr⟩
 rw [← hfin']; exact step_leave_returned hleave
theorem Lst.still {K : Act → Prop} (ho : ops[i]? = some o) (hg : o.guard = none) (h : o.still P a w K) (hK : ∀ a', K a' → Lst P ops Q rest a' w) : Lst P ops Q (i :: rest) a w := by
 have hw : Region.wanted o (yielded ops a.tmps) = true := by simp [Region.wanted, hg]
 unfold Oper.still at h
 generalize hr : (execOp a.eval o).run P w = r at h
 cases r with
 | ok n w' =>
  cases n <;> simp only [Oper.stillUpon] at h
  case value v => obtain ⟨rfl, h2⟩ := h; exact Lst.value ho hw hr (hK _ h2)
  case skip => obtain ⟨rfl, h2⟩ := h; exact Lst.skip ho hw hr (hK _ h2)
  case enter f args =>
   obtain ⟨rfl, v, hc, h2⟩ := h; exact Lst.enter ho hw hr (hc.mono fun e w'' ⟨he, hw⟩ => ⟨v, he, by rw [hw]; exact hK _ h2⟩)
 | halt x w' => simp only [Oper.stillUpon] at h
end
theorem countP_lt {p q : Nat → Bool} {l : List Nat} (hpq : ∀ x, p x = true → q x = true) {x : Nat} (hx : x ∈ l) (hp : p x = false) (hq : q x = true) : l.countP p < l.countP q := by
 have hle : ∀ m : List Nat, m.countP p ≤ m.countP q := by
  intro m
  induction m with
  | nil => simp
  | cons y m ih =>
   rw [List.countP_cons, List.countP_cons]
   by_cases h : p y = true
   ·rw [if_pos h, if_pos (hpq y h)]; omega
   ·rw [if_neg h]; split <;> omega
 induction l with
 | nil => cases hx
 | cons y l ih =>
  rw [List.countP_cons, List.countP_cons]; have := hle l
  rcases List.mem_cons.1 hx with rfl | hx
  ·rw [if_neg (by simp [hp]), if_pos hq]; omega
  ·have h2 := ih hx
   by_cases h : p y = true
   ·rw [if_pos h, if_pos (hpq y h)]; omega
   ·rw [if_neg h]; split <;> omega
def edgesBack (ops : Array Oper) : Bool := ops.toList.zipIdx.all fun (o, i) => o.after.all fun e => decide (e.on < i)
theorem edgesBack_spec {ops : Array Oper} (h : edgesBack ops = true) {i : Nat} {o : Oper} (ho : ops[i]? = some o) : ∀ e ∈ o.after, e.on < i := by
 intro e he; have h1 := List.all_eq_true.1 h (o, i) (by
  rw [List.mk_mem_zipIdx_iff_getElem?]
  simpa using ho)
 have h2 := Array.all_eq_true'.1 h1 e he
 simpa using h2
section
variable {P : Program} {ops ops' : Array Oper} {Q : Exit → Act → World → Prop} {F : Act → Prop} {w : World} {n : Nat} {o o' : Oper}
theorem ready_some {md : Region.Mode} {listed : Array Bool} (hsz : listed.size = ops'.size) (hb : edgesBack ops' = true) : ∀ (d i : Nat), i = d → i < ops'.size → listed.getD i true = false → Region.ready md ops' listed ≠ [] := by
 intro d
 induction d using Nat.strongRecOn with
 | _ d ih =>
  intro i hi hlt hun hnil; have hne : i ∉ Region.ready md ops' listed := by rw [hnil]; simp
  have ho : ops'[i]? = some ops'[i] := by simp [hlt]
  by_cases hall : ∀ e ∈ (ops'[i]).after, Region.binds md e = true → listed.getD e.on false = true
  ·exact hne (mem_ready.2 ⟨hun, _, ho, hall⟩)
  ·simp only [Classical.not_forall] at hall
   obtain ⟨e, he, hbd, hl⟩ := hall; have hlt2 := edgesBack_spec hb ho e he; refine ih e.on (by omega) e.on rfl (by omega) ?_ hnil
   have : e.on < listed.size := by omega
   simp [this] at hl ⊢
   exact hl
theorem lst_of_still (ho : ops[n]? = some o) (ho' : ops'[n]? = some o') (hd : o'.dst = none) (hgs : ∀ (i : Nat) (x : Oper), ops'[i]? = some x → x.guard = none)
  (hsame : ∀ i : Nat, i ≠ n → ops'[i]? = ops[i]?) (hsz : ops'.size = n + 1) (hb : edgesBack ops' = true)
  (hs : Region.sinkB .any ops' n = true) (hc : Region.chainB .any ops' n = true) (hF : ∀ a', F a' → Lst P ops Q [n] a' w) :
  ∀ (fuel t : Nat) (listed : Array Bool) (a : Act), HeadInv .any ops' n listed → listed.getD n true = false → (List.range ops'.size).countP (fun i => !listed.getD i true) ≤ fuel →
   wpAnyS P .any ops' w F fuel listed a → Lst P ops Q (Region.linearise.go .any ops' fuel t listed []) a w := by
 intro fuel
 induction fuel with
 | zero =>
  intro t listed a inv hun hcnt _
  exfalso
  have : 0 < (List.range ops'.size).countP (fun i => !listed.getD i true) := by
   rw [List.countP_pos_iff]; exact ⟨n, List.mem_range.2 (by omega), by simp only [hun]; rfl⟩
  omega
 | succ fuel ih =>
  intro t listed a inv hun hcnt h; obtain ⟨_, h₁⟩ := h; simp only [Region.linearise.go]
  change Lst P ops Q (match (Region.ready .any ops' listed)[t % (Region.ready .any ops' listed).length]? with
   | some i => Region.linearise.go .any ops' fuel (t / (Region.ready .any ops' listed).length) (listed.setIfInBounds i true) [i]
   | none => [].reverse) a w
  cases hi : (Region.ready .any ops' listed)[t % (Region.ready .any ops' listed).length]? with
  | none =>
   exfalso
   refine ready_some (md := .any) inv.size hb n n rfl (by omega) hun ?_
   cases hr : Region.ready .any ops' listed with
   | nil => rfl
   | cons x xs =>
    rw [hr] at hi; have hlt : t % (x :: xs).length < (x :: xs).length := Nat.mod_lt _ (by simp)
    simp at hi
    simp at hlt
    omega
  | some i =>
   simp only []
   rw [linearise_go_acc, List.reverse_singleton, List.singleton_append]; have hir := List.mem_of_getElem? hi
   have hst := h₁ i hir; obtain ⟨hiun, oi, hoi, _⟩ := mem_ready.1 hir; have hilt : i < ops'.size := (Array.getElem?_eq_some_iff.1 hoi).1
   by_cases hin : i = n
   ·subst hin
    have hall : ∀ j, j < i → listed.getD j true = true := by
     intro j hj
     cases hj2 : listed.getD j true with
     | true => rfl
     | false => exact absurd hir (tail_waits hs hc (by omega) inv (i - j) j rfl hj hj2 i (Nat.le_refl _))
    have hnil : ∀ fuel t, Region.linearise.go .any ops' fuel t (listed.setIfInBounds i true) [] = [] := by
     intro fuel t; have hrn : Region.ready .any ops' (listed.setIfInBounds i true) = [] := by
      cases hr : Region.ready .any ops' (listed.setIfInBounds i true) with
      | nil => rfl
      | cons x xs =>
       exfalso
       have hx : x ∈ Region.ready .any ops' (listed.setIfInBounds i true) := by rw [hr]; simp
       obtain ⟨hxun, ox, hox, _⟩ := mem_ready.1 hx; have hxlt : x < ops'.size := (Array.getElem?_eq_some_iff.1 hox).1
       by_cases hxi : i = x
       ·subst hxi
        have : i < listed.size := by rw [inv.size]; exact hilt
        simp [this] at hxun
       ·rw [getD_set_ne true hxi, hall x (by omega)] at hxun
        cases hxun
     cases fuel with
     | zero => simp [Region.linearise.go]
     | succ f =>
      simp only [Region.linearise.go]
      change (match (Region.ready .any ops' (listed.setIfInBounds i true))[t % (Region.ready .any ops' (listed.setIfInBounds i true)).length]? with
       | some i' => _
       | none => [].reverse) = []
      rw [hrn]
      rfl
    rw [hnil]; refine hF a ?_
    have hrn2 : Region.ready .any ops' (listed.setIfInBounds i true) = [] := by
     cases hr : Region.ready .any ops' (listed.setIfInBounds i true) with
     | nil => rfl
     | cons x xs =>
      exfalso
      have hx : x ∈ Region.ready .any ops' (listed.setIfInBounds i true) := by rw [hr]; simp
      obtain ⟨hxun, ox, hox, _⟩ := mem_ready.1 hx; have hxlt : x < ops'.size := (Array.getElem?_eq_some_iff.1 hox).1
      by_cases hxi : i = x
      ·subst hxi
       have : i < listed.size := by rw [inv.size]; exact hilt
       simp [this] at hxun
      ·rw [getD_set_ne true hxi, hall x (by omega)] at hxun
       cases hxun
    have hK : ∀ a', wpAnyS P .any ops' w F fuel (listed.setIfInBounds i true) a' → F a' := by
     intro a' h'
     cases fuel with
     | zero => exact h'.2
     | succ f => exact h'.1 hrn2
    have hoi' : oi = o' := Option.some.inj (hoi.symm.trans ho')
    unfold stOp at hst; simp only [hoi] at hst
    rw [if_pos (by simp [Region.wanted, hgs i oi hoi])] at hst
    unfold Oper.still at hst
    generalize (execOp a.eval oi).run P w = r at hst
    have hput : ∀ v, a.put oi.dst v = a := by intro v; rw [hoi', hd]; rfl
    cases r with
    | ok m w' =>
     cases m <;> simp only [Oper.stillUpon] at hst
     case value v => rw [hput] at hst; exact hK _ hst.2
     case skip => rw [hput] at hst; exact hK _ hst.2
     case enter f args => obtain ⟨_, v, _, h3⟩ := hst; rw [hput] at h3; exact hK _ h3
    | halt x w' => simp only [Oper.stillUpon] at hst
   ·have hin2 : i < n := by omega
    have hoi2 : ops[i]? = some oi := by rw [← hsame i hin]; exact hoi
    unfold stOp at hst; simp only [hoi] at hst
    rw [if_pos (by simp [Region.wanted, hgs i oi hoi])] at hst
    refine Lst.still hoi2 (hgs i oi hoi) hst fun a' ha' => ih _ _ a' (inv.set hir hin2) ?_ ?_ ha'
    ·rw [getD_set_ne true hin]; exact hun
    ·have hlt := countP_lt (p := fun j => !(listed.setIfInBounds i true).getD j true) (q := fun j => !listed.getD j true) (l := List.range ops'.size) (x := i) ?_ (List.mem_range.2 hilt) ?_ ?_
     ·omega
     ·intro x hx
      by_cases hxi : i = x
      ·subst hxi
       have : i < listed.size := by rw [inv.size]; exact hilt
       simp [this] at hx
      ·rw [getD_set_ne true hxi] at hx; exact hx
     ·have : i < listed.size := by rw [inv.size]; exact hilt
      simp [this]
     ·simp only [hiun]; rfl
theorem linearise_same (h : ∀ i : Nat, (ops'[i]?).map (fun (x : Oper) => x.after) = (ops[i]?).map (fun (x : Oper) => x.after)) (hsz : ops'.size = ops.size) : ∀ (fuel t : Nat) (listed : Array Bool) (acc : List Nat),
  Region.linearise.go .any ops' fuel t listed acc = Region.linearise.go .any ops fuel t listed acc := by
 intro fuel
 induction fuel with
 | zero => intro t listed acc; simp [Region.linearise.go]
 | succ fuel ih =>
  intro t listed acc; have hr : Region.ready .any ops' listed = Region.ready .any ops listed := by
   unfold Region.ready; rw [hsz]; refine List.filter_congr fun i _ => ?_
   have := h i
   cases h1 : ops'[i]? <;> cases h2 : ops[i]? <;> simp_all
  simp only [Region.linearise.go]
  change (match (Region.ready .any ops' listed)[t % (Region.ready .any ops' listed).length]? with
   | some i => Region.linearise.go .any ops' fuel (t / (Region.ready .any ops' listed).length) (listed.setIfInBounds i true) (i :: acc)
   | none => acc.reverse) = (match (Region.ready .any ops listed)[t % (Region.ready .any ops listed).length]? with
   | some i => Region.linearise.go .any ops fuel (t / (Region.ready .any ops listed).length) (listed.setIfInBounds i true) (i :: acc)
   | none => acc.reverse)
  rw [hr]
  cases (Region.ready .any ops listed)[t % (Region.ready .any ops listed).length]? with
  | none => rfl
  | some i => exact ih _ _ _
def unsent (l : List Oper) (n : Nat) : List Oper := l.modify n fun o => { o with op := .move (.const undef), dst := none }
def sendOk (l : List Oper) (n : Nat) : Bool :=
 Region.lexB .any (unsent l n).toArray && Region.sinkB .any (unsent l n).toArray n && Region.chainB .any (unsent l n).toArray n && edgesBack (unsent l n).toArray &&
  decide (l.length = n + 1) && (unsent l n).all fun o => o.guard.isNone
theorem wpN_still_send {id : Nat} {a : Act} {l : List Oper} (n : Nat) (hm : P.follows .mixedOrders = true) (hB : sendOk l n = true)
  (h : wpStill P (unsent l n).toArray { w with drawn := w.drawn + 1 } (fun a' => Lst P l.toArray Q [n] a' { w with drawn := w.drawn + 1 }) (unsent l n) a) : wpN P (.region id l.toArray true) Q a w := by
 simp only [sendOk, Bool.and_eq_true, decide_eq_true_eq] at hB
 obtain ⟨⟨⟨⟨⟨h1, h2⟩, h3⟩, h4⟩, h5⟩, h6⟩ := hB; have hget : ∀ i : Nat, (unsent l n)[i]? = if n = i then (l[i]?).map (fun o => { o with op := .move (.const undef), dst := none }) else l[i]? := by
  intro i; unfold unsent; rw [List.getElem?_modify]; split <;> simp_all
 have hlen : (unsent l n).length = n + 1 := by simp [unsent, h5]
 have hsame : ∀ i : Nat, i ≠ n → (unsent l n).toArray[i]? = l.toArray[i]? := by
  intro i hi; simp only [List.getElem?_toArray]; rw [hget, if_neg (fun e => hi e.symm)]
 have hn : l[n]? = some (l[n]'(by omega)) := by simp [h5]
 have hafter : ∀ i : Nat, ((unsent l n).toArray[i]?).map (fun (x : Oper) => x.after) = (l.toArray[i]?).map (fun (x : Oper) => x.after) := by
  intro i; simp only [List.getElem?_toArray]; rw [hget]; split <;> simp [Option.map_map]; rfl
 have hgs : ∀ (i : Nat) (x : Oper), (unsent l n).toArray[i]? = some x → x.guard = none := by
  intro i x hx; simp only [List.getElem?_toArray] at hx
  have := List.all_eq_true.1 h6 x (List.mem_of_getElem? hx)
  simpa using this
 refine Lst.draw fun t => ?_
 simp only [Region.schedule, hm, Bool.true_or, if_true, Region.linearise]
 rw [← linearise_same hafter (by simp [unsent])]
 simp only [Region.lexB, Bool.and_eq_true] at h1
 have hlx := wpAnyS_lex (P := P) (md := .any) (w := { w with drawn := w.drawn + 1 }) (Q := fun a' => Lst P l.toArray Q [n] a' { w with drawn := w.drawn + 1 }) h1.1 (unsent l n) 0 (Array.replicate (unsent l n).toArray.size false) a (by simp) (by simpa using h1.2) h
 have hsz : l.toArray.size = (unsent l n).length := by simp [unsent]
 rw [hsz]; refine lst_of_still (o := l[n]'(by omega)) (o' := { l[n]'(by omega) with op := .move (.const undef), dst := none }) (by simp [h5]) (by simp only [List.getElem?_toArray]; rw [hget, if_pos rfl, hn]; rfl) rfl hgs hsame (by simp [hlen]) h4 h2 h3 (fun _ h => h)
  (unsent l n).length t _ a ?_ ?_ ?_ ?_
 ·refine ⟨by simp, fun j oj hj hl => ?_, fun t ht ht' => ?_⟩
  ·rw [getD_replicate_false] at hl; cases hl
  ·have : t < (unsent l n).length := by simpa using ht'
   simp [this]
 ·simp [hlen]
 ·exact Nat.le_trans List.countP_le_length (by simp)
 ·simpa [unsent] using hlx
end
end Go.Cf
namespace Go.Cf
open Go.RowKit Go.Conc
structure Fr (S : Nat → Prop) (w w' : World) : Prop where
 os : w'.os = w.os
 tape : w'.tape = w.tape
 output : w'.output = w.output
 size : w.heap.size ≤ w'.heap.size
 block : ∀ k, k < w.heap.size → ¬ S k → w'.heap[k]? = w.heap[k]?
section
variable {S T : Nat → Prop} {w w1 w2 : World}
theorem Fr.refl (S : Nat → Prop) (w : World) : Fr S w w := ⟨rfl, rfl, rfl, Nat.le_refl _, fun _ _ _ => rfl⟩
theorem Fr.trans (h : Fr S w w1) (k : Fr T w1 w2) (hT : ∀ x, T x → S x ∨ w.heap.size ≤ x) : Fr S w w2 :=
 ⟨k.os.trans h.os, k.tape.trans h.tape, k.output.trans h.output, Nat.le_trans h.size k.size, fun x hx hn =>
  (k.block x (Nat.lt_of_lt_of_le hx h.size) (fun ht => (hT x ht).elim hn (fun h3 => by omega))).trans (h.block x hx hn)⟩
theorem Fr.below (h : Below w.heap.size w w1) (S : Nat → Prop) : Fr S w w1 := ⟨h.os, h.tape, h.output, h.size, fun x hx _ => h.block x hx⟩
theorem Fr.alloc (h : Fr S w w1) (o : Obj) : Fr S w (w1.alloc o) := h.trans (Fr.below ((Below.refl _ _).alloc (Nat.le_refl _) o) (fun _ => False)) (fun _ h => h.elim)
theorem Fr.drewN (h : Fr S w w1) (n : Nat) : Fr S w (w1.drewN n) := ⟨h.os, h.tape, h.output, h.size, h.block⟩
theorem Fr.setCell (h : Fr S w w1) {p : Addr} (hp : S p.block ∨ w.heap.size ≤ p.block) (u : Value) : Fr S w (w1.setCell p u) :=
 h.trans (T := fun k => k = p.block) ⟨rfl, rfl, rfl, by simp [World.setCell], fun i _ hn => Below.heap_setCell w1 p u i hn⟩ (fun k hk => by rw [hk]; exact hp)
theorem Fr.grown {row : Option Nat} (h : Fr S w w1) (hg : w1.grownBy w2 row) (hr : ∀ k, row = some k → S k ∨ w.heap.size ≤ k) : Fr S w w2 :=
 h.trans (T := fun k => row = some k) ⟨hg.os, hg.tape, hg.output, hg.size, fun i hi hn => hg.block i hi (fun he => hn he.symm)⟩ hr
theorem Fr.setChan (h : Fr S w w1) {c : Nat} (hc : S c ∨ w.heap.size ≤ c) (cap : Nat) (buf : Array Value) (cl : Bool) (s r : Nat) (tm : Bool) : Fr S w (w1.setChan c cap buf cl s r tm) :=
 h.trans (T := fun k => k = c) ⟨rfl, rfl, rfl, by simp [World.setChan], fun i _ hn => by simp only [World.setChan]; rw [Array.getElem?_setIfInBounds_ne (fun e => hn e.symm)]⟩ (fun k hk => by rw [hk]; exact hc)
theorem Fr.blk {g : Nat} {o : Obj} (h : Fr S w w1) (hb : w.heap[g]? = some o) (hn : ¬ S g) : w1.heap[g]? = some o := (h.block g (lt_of_block hb) hn).trans hb
theorem blk_setCell {g : Nat} {t : TypeId} {cs : Array Value} {fr : Nat × Nat} (h : w.heap[g]? = some (.cells cs t fr)) (i : Nat) (u : Value) : (w.setCell ⟨g, i, none⟩ u).heap[g]? = some (.cells (cs.setIfInBounds i u) t fr) := by
 simp [World.setCell, Array.getElem?_modify, h]
theorem blk_cell {g : Nat} {t : TypeId} {cs : Array Value} {fr : Nat × Nat} (h : w.heap[g]? = some (.cells cs t fr)) (i : Nat) : w.cell? ⟨g, i, none⟩ = cs[i]? := by
 simp [World.cell?, h]
theorem blk_free {g : Nat} {t : TypeId} {cs : Array Value} (h : w.heap[g]? = some (.cells cs t (0, 0))) (i : Nat) : w.frozen? ⟨g, i, none⟩ = false := by simp [World.frozen?, h]
end
theorem wp_still_tail {P : Program} {id : Nat} {Q : Exit → Act → World → Prop} {a : Act} {w : World} {l : List Oper} (n : Nat) (hm : P.follows .mixedOrders = true) (hB : Region.lexTailB .any l.toArray n = true)
  (h : wpStill P l.toArray w.drew (fun a' => wpList P l.toArray Q (l.drop n) a' w.drew) (l.take n) a) : (Code.region id l.toArray true).wp P Q a w :=
 wp_region_still_tail n hm hB h
def byteAt (s : ByteArray) (i : Nat) : Nat := (s.data.toList.getD i 0).toNat
theorem byteAt_get (s : ByteArray) (i : Nat) (h : i < s.size) : (s[i]'h).toNat = byteAt s i := by
 have hd : i < s.data.size := h
 show (s.data[i]'hd).toNat = _
 simp only [byteAt, List.getD, Array.getElem?_toList, Array.getElem?_eq_getElem hd, Option.getD_some]
theorem byteAt_lt (s : ByteArray) (i : Nat) : byteAt s i < 256 := (s.data.toList.getD i 0).toNat_lt
def nlc (s : ByteArray) (p : Nat) : Nat := ((s.data.toList.take p).filter (fun c => c == 10)).length
theorem data_length (s : ByteArray) : s.data.toList.length = s.size := by rw [Array.length_toList]; rfl
theorem nlc_le (s : ByteArray) (p : Nat) : nlc s p ≤ s.size := by
 unfold nlc; have h1 := List.length_filter_le (fun c : UInt8 => c == 10) (s.data.toList.take p)
 have h2 : (s.data.toList.take p).length ≤ s.data.toList.length := by rw [List.length_take]; omega
 rw [data_length] at h2; omega
theorem nlc_succ (s : ByteArray) (p : Nat) (h : p < s.size) : nlc s (p + 1) = nlc s p + if byteAt s p = 10 then 1 else 0 := by
 unfold nlc; have h' : p < s.data.toList.length := by rw [data_length]; exact h
 rw [List.take_succ_eq_append_getElem h', List.filter_append]; have e : byteAt s p = (s.data.toList[p]).toNat := by unfold byteAt; rw [List.getD_eq_getElem?_getD, List.getElem?_eq_getElem h']; rfl
 by_cases hc : s.data.toList[p] = 10
 ·rw [e, hc]; simp
 ·have : ¬ (s.data.toList[p]).toNat = 10 := fun e2 => hc (UInt8.toNat_inj.1 e2)
  rw [e, if_neg this]; have hf : (s.data.toList[p] == 10) = false := by rw [beq_eq_false_iff_ne]; exact hc
  simp only [List.filter_cons, hf]
  simp
theorem toList_some {t : ByteArray} (h : 0 < t.size) : t.toList.isEmpty = false := by
 rw [Lib.toList_data]
 cases hl : t.data.toList with
 | nil =>
     have h2 : t.data.size = 0 := by rw [← Array.length_toList, hl]; rfl
     have : t.size = t.data.size := rfl
     omega
 | cons => rfl
theorem byteAt_extract (s : ByteArray) (p i : Nat) : byteAt (s.extract p s.size) i = byteAt s (p + i) := by
 unfold byteAt; rw [Lib.extract_to_end]; simp [List.getD, List.getElem?_drop]
abbrev i64 (n : Int) : Value := .int .i64 n
abbrev fnV (n : Nat) : Value := .func (.func n) #[] #[]
abbrev Tag := Option (Bool × Nat)
structure It where
 typ : Nat
 val : ByteArray
 line : Int
 pos : Int
def It.v (x : It) : Value := .agg #[i64 x.typ, .string x.val, i64 x.line, i64 x.pos]
structure LX where
 inp : ByteArray
 start : Nat
 pos : Nat
 width : Nat
 line : Int
 state : Tag
 ch : Nat
 q : List It
 cs : Nat
 cr : Nat
 stack : List Nat
 parts : List ByteArray
 ssf : Option Nat
 lstart : Nat
 ilstart : Nat
def LX.ssfV (L : LX) : Value := match L.ssf with
 | none => .nilFunc
 | some n => fnV n
def LX.cells (L : LX) (tv sv pv : Value) : Array Value :=
 #[.string L.inp, i64 L.start, i64 L.pos, i64 L.width, i64 L.line, tv, .chan (some L.ch), sv, pv, L.ssfV, i64 L.lstart, i64 L.ilstart]
structure LX.Ok (L : LX) : Prop where
 small : L.inp.size ≤ 1000000
 pos : L.pos ≤ L.inp.size
 start : L.start ≤ L.inp.size
 width : L.width ≤ 1
 lstart : L.lstart ≤ L.inp.size
 ilstart : L.ilstart ≤ L.inp.size
 line : L.line = 1 + nlc L.inp L.pos
 asc : ∀ i, i < L.inp.size → byteAt L.inp i < 128
theorem LX.Ok.line0 {L : LX} (ok : L.Ok) : -10000000 ≤ L.line := by have := ok.line; omega
theorem LX.Ok.line1 {L : LX} (ok : L.Ok) : L.line ≤ 10000000 := by have := ok.line; have := nlc_le L.inp L.pos; have := ok.small; omega
def RepV (S : Nat → Prop) (w : World) (v : Value) : Tag → Prop
 | none => v = .nilFunc
 | some (false, n) => v = fnV n
 | some (true, n) => ∃ g, v = .func (.func 125) #[] #[.pointer (some ⟨g, 0, none⟩)] ∧ w.heap[g]? = some (.cells #[fnV n] 107 (0, 0)) ∧ S g
structure LexAt (base : Nat) (S : Nat → Prop) (w : World) (b : Nat) (L : LX) (tv sv pv : Value) : Prop where
 blk : w.heap[b]? = some (.cells (L.cells tv sv pv) 109 (0, 0))
 chan : w.heap[L.ch]? = some (.chan 10 (L.q.map It.v).toArray false L.cs L.cr false)
 stack : w.ownsRow base 107 1 sv L.stack.length (L.stack.map fnV)
 parts : w.ownsRow base 9 1 pv L.parts.length (L.parts.map Value.string)
 st : RepV S w tv L.state
 hb : S b
 hch : S L.ch
 hsv : ∀ k, sv.ownBlock = some k → S k
 hpv : ∀ k, pv.ownBlock = some k → S k
 base : base ≤ b
 stv : ∀ g, some g = sv.ownBlock → ∀ n, L.state = some (true, n) → tv ≠ .func (.func 125) #[] #[.pointer (some ⟨g, 0, none⟩)]
section
variable {base : Nat} {S : Nat → Prop} {w w1 : World} {b : Nat} {L L' : LX} {tv sv pv : Value}
theorem LexAt.c0 (h : LexAt base S w b L tv sv pv) : w.cell? ⟨b, 0, none⟩ = some (.string L.inp) := blk_cell h.blk 0
theorem LexAt.c1 (h : LexAt base S w b L tv sv pv) : w.cell? ⟨b, 1, none⟩ = some (i64 L.start) := blk_cell h.blk 1
theorem LexAt.c2 (h : LexAt base S w b L tv sv pv) : w.cell? ⟨b, 2, none⟩ = some (i64 L.pos) := blk_cell h.blk 2
theorem LexAt.c3 (h : LexAt base S w b L tv sv pv) : w.cell? ⟨b, 3, none⟩ = some (i64 L.width) := blk_cell h.blk 3
theorem LexAt.c4 (h : LexAt base S w b L tv sv pv) : w.cell? ⟨b, 4, none⟩ = some (i64 L.line) := blk_cell h.blk 4
theorem LexAt.c5 (h : LexAt base S w b L tv sv pv) : w.cell? ⟨b, 5, none⟩ = some (tv) := blk_cell h.blk 5
theorem LexAt.c6 (h : LexAt base S w b L tv sv pv) : w.cell? ⟨b, 6, none⟩ = some (.chan (some L.ch)) := blk_cell h.blk 6
theorem LexAt.c7 (h : LexAt base S w b L tv sv pv) : w.cell? ⟨b, 7, none⟩ = some (sv) := blk_cell h.blk 7
theorem LexAt.c8 (h : LexAt base S w b L tv sv pv) : w.cell? ⟨b, 8, none⟩ = some (pv) := blk_cell h.blk 8
theorem LexAt.c9 (h : LexAt base S w b L tv sv pv) : w.cell? ⟨b, 9, none⟩ = some (L.ssfV) := blk_cell h.blk 9
theorem LexAt.c10 (h : LexAt base S w b L tv sv pv) : w.cell? ⟨b, 10, none⟩ = some (i64 L.lstart) := blk_cell h.blk 10
theorem LexAt.c11 (h : LexAt base S w b L tv sv pv) : w.cell? ⟨b, 11, none⟩ = some (i64 L.ilstart) := blk_cell h.blk 11
theorem LexAt.free (h : LexAt base S w b L tv sv pv) (i : Nat) : w.frozen? ⟨b, i, none⟩ = false := blk_free h.blk i
theorem own_ne_blk {e t : TypeId} {size n : Nat} {v : Value} {xs : List Value} {cs : Array Value} {fr : Nat × Nat} (h : w.ownsRow base e size v n xs) (hb : w.heap[b]? = some (.cells cs t fr)) (ht : e ≠ t) : v.ownBlock ≠ some b := by
 rintro hv
 obtain ⟨_, ⟨rfl, _⟩ | ⟨g, cap, cur, rfl, _, hblk, _⟩⟩ := h
 ·cases hv
 ·simp only [Value.ownBlock, Option.some.injEq] at hv
  subst hv; rw [hb] at hblk
  injection hblk with hblk
  injection hblk with _ h2 _
  exact ht h2.symm
theorem LexAt.ne_chan (h : LexAt base S w b L tv sv pv) : L.ch ≠ b := by
 intro e; have := h.chan
 rw [e, h.blk] at this; cases this
theorem RepV.far {v : Value} {t : Tag} (h : RepV S w v t) (hb : w.heap[b]? = some (.cells (L.cells tv sv pv) 109 (0, 0))) (i : Nat) (u : Value) : RepV S (w.setCell ⟨b, i, none⟩ u) v t := by
 match t, h with
 | none, h => exact h
 | some (false, n), h => exact h
 | some (true, n), ⟨g, hv, hg, hs⟩ =>
  refine ⟨g, hv, ?_, hs⟩
  rw [Below.heap_setCell _ _ _ _ ?_]
  ·exact hg
  ·intro e
   simp only at e
   rw [e, hb] at hg
   injection hg with hg
   injection hg with _ h2 _
   cases h2
theorem LexAt.set (h : LexAt base S w b L tv sv pv) (i : Nat) (u : Value) (hc : (L.cells tv sv pv).setIfInBounds i u = L'.cells tv sv pv) (hch : L'.ch = L.ch) (hq : L'.q = L.q) (hcs : L'.cs = L.cs) (hcr : L'.cr = L.cr)
  (hst : L'.stack = L.stack) (hpa : L'.parts = L.parts) (hta : L'.state = L.state) : LexAt base S (w.setCell ⟨b, i, none⟩ u) b L' tv sv pv where
 blk := by rw [blk_setCell h.blk, hc]
 chan := by rw [Below.heap_setCell _ _ _ _ (by rw [hch]; exact h.ne_chan), hch, hq, hcs, hcr]; exact h.chan
 stack := by rw [hst]; exact ownsRow_setCell_other h.stack (own_ne_blk h.stack h.blk (by decide)) u
 parts := by rw [hpa]; exact ownsRow_setCell_other h.parts (own_ne_blk h.parts h.blk (by decide)) u
 st := by rw [hta]; exact h.st.far h.blk i u
 hb := h.hb
 hch := by rw [hch]; exact h.hch
 hsv := h.hsv
 hpv := h.hpv
 base := h.base
 stv := by rw [hta]; exact h.stv
theorem LexAt.drewN (h : LexAt base S w b L tv sv pv) (n : Nat) : LexAt base S (w.drewN n) b L tv sv pv := ⟨h.blk, h.chan, h.stack, h.parts, h.st, h.hb, h.hch, h.hsv, h.hpv, h.base, h.stv⟩
end
def At (base : Nat) (S0 : Nat → Prop) (w0 w : World) (b : Nat) (L : LX) : Prop :=
 ∃ S tv sv pv, LexAt base S w b L tv sv pv ∧ Fr S0 w0 w ∧ ∀ k, S k → S0 k ∨ (w0.heap.size ≤ k ∧ k < w.heap.size)
section
variable {base : Nat} {S0 : Nat → Prop} {w0 w w1 : World} {b : Nat} {L L' : LX}
theorem At.set (h : At base S0 w0 w b L) (i : Nat) (u : Value) (hc : ∀ tv sv pv, (L.cells tv sv pv).setIfInBounds i u = L'.cells tv sv pv) (hch : L'.ch = L.ch) (hq : L'.q = L.q) (hcs : L'.cs = L.cs) (hcr : L'.cr = L.cr)
  (hst : L'.stack = L.stack) (hpa : L'.parts = L.parts) (hta : L'.state = L.state) : At base S0 w0 (w.setCell ⟨b, i, none⟩ u) b L' := by
 obtain ⟨S, tv, sv, pv, h1, h2, h3⟩ := h; refine ⟨S, tv, sv, pv, h1.set i u (hc tv sv pv) hch hq hcs hcr hst hpa hta, h2.setCell ?_ u, ?_⟩
 ·rcases h3 b h1.hb with h | h
  ·exact .inl h
  ·exact .inr h.1
 ·intro k hk
  rcases h3 k hk with h | h
  ·exact .inl h
  ·exact .inr ⟨h.1, by simpa using h.2⟩
theorem At.drewN (h : At base S0 w0 w b L) (n : Nat) : At base S0 w0 (w.drewN n) b L := by
 obtain ⟨S, tv, sv, pv, h1, h2, h3⟩ := h; exact ⟨S, tv, sv, pv, h1.drewN n, h2.drewN n, h3⟩
theorem At.drew (h : At base S0 w0 w b L) : At base S0 w0 w.drew b L := h.drewN 1
theorem At.free (h : At base S0 w0 w b L) (i : Nat) : w.frozen? ⟨b, i, none⟩ = false := by obtain ⟨S, tv, sv, pv, h1, _⟩ := h; exact h1.free i
theorem At.c0 (h : At base S0 w0 w b L) : w.cell? ⟨b, 0, none⟩ = some (.string L.inp) := by obtain ⟨S, tv, sv, pv, h1, _⟩ := h; exact h1.c0
theorem At.c1 (h : At base S0 w0 w b L) : w.cell? ⟨b, 1, none⟩ = some (i64 L.start) := by obtain ⟨S, tv, sv, pv, h1, _⟩ := h; exact h1.c1
theorem At.c2 (h : At base S0 w0 w b L) : w.cell? ⟨b, 2, none⟩ = some (i64 L.pos) := by obtain ⟨S, tv, sv, pv, h1, _⟩ := h; exact h1.c2
theorem At.c3 (h : At base S0 w0 w b L) : w.cell? ⟨b, 3, none⟩ = some (i64 L.width) := by obtain ⟨S, tv, sv, pv, h1, _⟩ := h; exact h1.c3
theorem At.c4 (h : At base S0 w0 w b L) : w.cell? ⟨b, 4, none⟩ = some (i64 L.line) := by obtain ⟨S, tv, sv, pv, h1, _⟩ := h; exact h1.c4
theorem At.c9 (h : At base S0 w0 w b L) : w.cell? ⟨b, 9, none⟩ = some (L.ssfV) := by obtain ⟨S, tv, sv, pv, h1, _⟩ := h; exact h1.c9
theorem At.c10 (h : At base S0 w0 w b L) : w.cell? ⟨b, 10, none⟩ = some (i64 L.lstart) := by obtain ⟨S, tv, sv, pv, h1, _⟩ := h; exact h1.c10
theorem At.c11 (h : At base S0 w0 w b L) : w.cell? ⟨b, 11, none⟩ = some (i64 L.ilstart) := by obtain ⟨S, tv, sv, pv, h1, _⟩ := h; exact h1.c11
theorem At.c6 (h : At base S0 w0 w b L) : w.cell? ⟨b, 6, none⟩ = some (.chan (some L.ch)) := by obtain ⟨S, tv, sv, pv, h1, _⟩ := h; exact h1.c6
end
def LX.chr (L : LX) : Nat := if L.inp.size ≤ L.pos then 0 else byteAt L.inp L.pos
def LX.nxt (L : LX) : LX :=
 if L.inp.size ≤ L.pos then { L with width := 0 }
 else if byteAt L.inp L.pos = 10 then { L with width := 1, pos := L.pos + 1, line := L.line + 1, lstart := L.pos }
 else { L with width := 1, pos := L.pos + 1 }
def LX.back (L : LX) : LX :=
 { L with pos := L.pos - L.width, line := if L.pos - L.width < L.inp.size ∧ byteAt L.inp (L.pos - L.width) = 10 then L.line - 1 else L.line }
def LX.ign (L : LX) : LX := { L with start := L.pos, ilstart := L.lstart }
def LX.pk (L : LX) : LX :=
 if L.inp.size ≤ L.pos then { L with width := 0 }
 else if byteAt L.inp L.pos = 10 then { L with width := 1, lstart := L.pos }
 else { L with width := 1 }
section
variable {L : LX}
theorem LX.Ok.nxt (ok : L.Ok) : L.nxt.Ok := by
 unfold LX.nxt
 by_cases he : L.inp.size ≤ L.pos
 ·rw [if_pos he]; exact ⟨ok.small, ok.pos, ok.start, by simp, ok.lstart, ok.ilstart, ok.line, ok.asc⟩
 ·rw [if_neg he]
  have hs := nlc_succ L.inp L.pos (by omega)
  have hl := ok.line
  by_cases hc : byteAt L.inp L.pos = 10
  ·rw [if_pos hc]; rw [if_pos hc] at hs
   exact ⟨ok.small, by show L.pos + 1 ≤ L.inp.size; omega, ok.start, by simp, ok.pos, ok.ilstart, by show L.line + 1 = 1 + (nlc L.inp (L.pos + 1) : Nat); omega, ok.asc⟩
  ·rw [if_neg hc]; rw [if_neg hc] at hs
   exact ⟨ok.small, by show L.pos + 1 ≤ L.inp.size; omega, ok.start, by simp, ok.lstart, ok.ilstart, by show L.line = 1 + (nlc L.inp (L.pos + 1) : Nat); omega, ok.asc⟩
theorem LX.Ok.back (ok : L.Ok) (hw : L.width = 1 ∧ 1 ≤ L.pos ∨ L.width = 0 ∧ L.inp.size ≤ L.pos) : L.back.Ok := by
 unfold LX.back; have hl := ok.line
 rcases hw with ⟨hw, hp⟩ | ⟨hw, hp⟩
 ·have hs := nlc_succ L.inp (L.pos - 1) (by have := ok.pos; omega)
  rw [show L.pos - 1 + 1 = L.pos from by omega] at hs
  have hq : L.pos - 1 < L.inp.size := by have := ok.pos; omega
  rw [hw]
  by_cases hc : byteAt L.inp (L.pos - 1) = 10
  ·rw [if_pos ⟨hq, hc⟩]; rw [if_pos hc] at hs
   exact ⟨ok.small, by show L.pos - 1 ≤ L.inp.size; omega, ok.start, by show (1 : Nat) ≤ 1; omega, ok.lstart, ok.ilstart, by show L.line - 1 = 1 + (nlc L.inp (L.pos - 1) : Nat); omega, ok.asc⟩
  ·rw [if_neg (fun e => hc e.2)]; rw [if_neg hc] at hs
   exact ⟨ok.small, by show L.pos - 1 ≤ L.inp.size; omega, ok.start, by show (1 : Nat) ≤ 1; omega, ok.lstart, ok.ilstart, by show L.line = 1 + (nlc L.inp (L.pos - 1) : Nat); omega, ok.asc⟩
 ·rw [hw, if_neg (fun e => by have := e.1; omega)]
  exact ⟨ok.small, by show L.pos - 0 ≤ L.inp.size; have := ok.pos; omega, ok.start, by show (0 : Nat) ≤ 1; omega, ok.lstart, ok.ilstart, by show L.line = 1 + (nlc L.inp (L.pos - 0) : Nat); simpa using hl, ok.asc⟩
theorem LX.Ok.ign (ok : L.Ok) : L.ign.Ok := ⟨ok.small, ok.pos, ok.pos, ok.width, ok.lstart, ok.lstart, ok.line, ok.asc⟩
theorem LX.Ok.pk (ok : L.Ok) : L.pk.Ok := by
 unfold LX.pk
 by_cases he : L.inp.size ≤ L.pos
 ·rw [if_pos he]; exact ⟨ok.small, ok.pos, ok.start, by simp, ok.lstart, ok.ilstart, ok.line, ok.asc⟩
 ·rw [if_neg he]
  by_cases hc : byteAt L.inp L.pos = 10
  ·rw [if_pos hc]; exact ⟨ok.small, ok.pos, ok.start, by simp, ok.pos, ok.ilstart, ok.line, ok.asc⟩
  ·rw [if_neg hc]; exact ⟨ok.small, ok.pos, ok.start, by simp, ok.lstart, ok.ilstart, ok.line, ok.asc⟩
theorem nxt_back (L : LX) : L.nxt.back = L.pk := by
 unfold LX.nxt LX.pk
 by_cases he : L.inp.size ≤ L.pos
 ·rw [if_pos he, if_pos he]
  unfold LX.back; simp only [Nat.sub_zero]
  rw [if_neg (fun e => by have := e.1; omega)]
 ·rw [if_neg he, if_neg he]
  by_cases hc : byteAt L.inp L.pos = 10
  ·rw [if_pos hc, if_pos hc]
   unfold LX.back; simp only [Nat.add_sub_cancel]
   rw [if_pos ⟨by omega, hc⟩]
   simp only [Int.add_sub_cancel]
  ·rw [if_neg hc, if_neg hc]
   unfold LX.back; simp only [Nat.add_sub_cancel]
   rw [if_neg (fun e => hc e.2)]
theorem chr_lt (ok : L.Ok) : L.chr < 128 := by
 unfold LX.chr
 by_cases he : L.inp.size ≤ L.pos
 ·rw [if_pos he]; omega
 ·rw [if_neg he]; exact ok.asc _ (by omega)
theorem nxt_width (L : LX) : L.nxt.width ≤ L.nxt.pos := by
 unfold LX.nxt
 by_cases he : L.inp.size ≤ L.pos
 ·rw [if_pos he]; simp
 ·rw [if_neg he]
  by_cases hc : byteAt L.inp L.pos = 10
  ·rw [if_pos hc]; simp
  ·rw [if_neg hc]; simp
end
end Go.Cf
namespace Go.Cf
open Go.RowKit Go.Conc Go.Proofs
theorem mixed : Tryz.prog.follows .mixedOrders = true := by kernel_rfl
theorem decode_asc (t : ByteArray) (w : World) (h0 : 0 < t.size) (h1 : byteAt t 0 < 128) :
  Calls Tryz.prog 124 #[.string t] w fun e w' => e = .returned (.tuple #[.int .i32 (byteAt t 0), i64 1]) ∧ w' = w := by
 have hne := toList_some h0; have hb := byteAt_get t 0 h0; have h2 : ((t[0]'h0).toNat : Int) < 128 := by omega
 rw [← hb]; clear h1 hb; go_enter Tryz.func124, Tryz.ntmps124; go_wp2_with fail
 go_ret2
 exact ⟨rfl, rfl⟩
section
variable {base : Nat} {S0 : Nat → Prop} {w0 w : World} {b : Nat} {L : LX}
theorem next_eof (h : At base S0 w0 w b L) (ok : L.Ok) (he : L.inp.size ≤ L.pos) :
  Calls Tryz.prog 85 #[.pointer (some ⟨b, 0, none⟩)] w fun e w' => e = .returned (.int .i32 0) ∧ At base S0 w0 w' b { L with width := 0 } := by
 have c0 := h.c0; have c2 := h.c2; have c3 := h.c3; have f3 := h.free 3; have hsm := ok.small; have hpp := ok.pos; go_enter Tryz.func85, Tryz.ntmps85; go_wp2; go_quiet (fail)
 go_wp2; go_ret
 exact ⟨rfl, (h.drewN _).set 3 _ (fun _ _ _ => rfl) rfl rfl rfl rfl rfl rfl rfl⟩
set_option maxRecDepth 100000 in
theorem next_plain (h : At base S0 w0 w b L) (ok : L.Ok) (he : L.pos < L.inp.size) (hc : byteAt L.inp L.pos ≠ 10) :
  Calls Tryz.prog 85 #[.pointer (some ⟨b, 0, none⟩)] w fun e w' => e = .returned (.int .i32 (byteAt L.inp L.pos)) ∧ At base S0 w0 w' b { L with width := 1, pos := L.pos + 1 } := by
 have c0 := h.c0; have c2 := h.c2; have c3 := h.c3; have f3 := h.free 3; have f2 := h.free 2; have hsm := ok.small; have hb : (((L.inp[L.pos]'he).toNat : Int) == 10) = false := by
  rw [byteAt_get]; simp; omega
 have hasc := ok.asc L.pos he; have hle := ok.pos; go_enter Tryz.func85, Tryz.ntmps85; go_wp2; go_quiet (fail)
 go_wp2; go_quiet (fail)
 go_wp2; have hx0 : 0 < (L.inp.extract L.pos L.inp.size).size := by simp; omega
 have hx1 : byteAt (L.inp.extract L.pos L.inp.size) 0 < 128 := by rw [byteAt_extract]; exact hasc
 have hdec := fun W => decode_asc (L.inp.extract L.pos L.inp.size) W hx0 hx1
 rw [byteAt_extract, Nat.add_zero] at hdec; clear hx0 hx1 hasc hb; refine wp_still_tail 17 mixed (by kernel_rfl) ?_
 simp only [List.take_succ_cons, List.take_zero, List.drop_succ_cons, List.drop_zero]
 repeat (first | still_step | still_call (hdec _))
 refine wpStill_nil ?_
 go_wp2; refine wp_still_tail 11 mixed (by kernel_rfl) ?_
 simp only [List.take_succ_cons, List.take_zero, List.drop_succ_cons, List.drop_zero]
 repeat (still_step)
 refine wpStill_nil ?_
 go_wp2; go_ret
 have k := fun n => ((h.drewN n).set (L' := { L with width := 1 }) 3 (i64 1) (fun _ _ _ => rfl) rfl rfl rfl rfl rfl rfl rfl).set (L' := { L with width := 1, pos := L.pos + 1 }) 2 (i64 ((L.pos : Int) + 1)) (fun _ _ _ => rfl) rfl rfl rfl rfl rfl rfl rfl
 exact ⟨rfl, (k _).drew⟩
set_option maxRecDepth 100000 in
theorem next_nl (h : At base S0 w0 w b L) (ok : L.Ok) (he : L.pos < L.inp.size) (hc : byteAt L.inp L.pos = 10) :
  Calls Tryz.prog 85 #[.pointer (some ⟨b, 0, none⟩)] w fun e w' => e = .returned (.int .i32 10) ∧ At base S0 w0 w' b { L with width := 1, pos := L.pos + 1, line := L.line + 1, lstart := L.pos } := by
 have c0 := h.c0; have c2 := h.c2; have c3 := h.c3; have c4 := h.c4; have c10 := h.c10; have f3 := h.free 3; have f2 := h.free 2; have f4 := h.free 4; have f10 := h.free 10; have hsm := ok.small; have hl0 := ok.line0; have hl1 := ok.line1; have hb : (((L.inp[L.pos]'he).toNat : Int) == 10) = true := by
  rw [byteAt_get, hc]; rfl
 have hle := ok.pos; have hasc := ok.asc L.pos he; have hx0 : 0 < (L.inp.extract L.pos L.inp.size).size := by simp; omega
 have hx1 : byteAt (L.inp.extract L.pos L.inp.size) 0 < 128 := by rw [byteAt_extract]; exact hasc
 have hdec := fun W => decode_asc (L.inp.extract L.pos L.inp.size) W hx0 hx1
 rw [byteAt_extract, Nat.add_zero, hc] at hdec; clear hx0 hx1 hasc; have HD := Lib.hid hdec; clear hdec; have HC := Lib.hid hc; clear hc; go_enter Tryz.func85, Tryz.ntmps85; go_wp2; go_quiet (fail)
 go_wp2; go_quiet (fail)
 clear hb; go_wp2; refine wp_still_tail 17 mixed (by kernel_rfl) ?_
 simp only [List.take_succ_cons, List.take_zero, List.drop_succ_cons, List.drop_zero]
 repeat (first | still_step | still_call (HD.out _))
 refine wpStill_nil ?_
 go_wp2; refine wp_still_tail 11 mixed (by kernel_rfl) ?_
 simp only [List.take_succ_cons, List.take_zero, List.drop_succ_cons, List.drop_zero]
 repeat (still_step)
 refine wpStill_nil ?_
 go_wp2; go_ret
 have k := fun n => ((((h.drewN n).set (L' := { L with line := L.line + 1 }) 4 (i64 (L.line + 1)) (fun _ _ _ => rfl) rfl rfl rfl rfl rfl rfl rfl).set (L' := { L with line := L.line + 1, lstart := L.pos }) 10 (i64 L.pos) (fun _ _ _ => rfl) rfl rfl rfl rfl rfl rfl rfl).set (L' := { L with line := L.line + 1, lstart := L.pos, width := 1 }) 3 (i64 1) (fun _ _ _ => rfl) rfl rfl rfl rfl rfl rfl rfl).set (L' := { L with line := L.line + 1, lstart := L.pos, width := 1, pos := L.pos + 1 }) 2 (i64 ((L.pos : Int) + 1)) (fun _ _ _ => rfl) rfl rfl rfl rfl rfl rfl rfl
 exact ⟨rfl, (k _).drew.drew⟩
theorem next_c (h : At base S0 w0 w b L) (ok : L.Ok) :
  Calls Tryz.prog 85 #[.pointer (some ⟨b, 0, none⟩)] w fun e w' => e = .returned (.int .i32 L.chr) ∧ At base S0 w0 w' b L.nxt := by
 unfold LX.chr LX.nxt
 by_cases he : L.inp.size ≤ L.pos
 ·rw [if_pos he, if_pos he]; exact next_eof h ok he
 ·rw [if_neg he, if_neg he]
  by_cases hc : byteAt L.inp L.pos = 10
  ·rw [if_pos hc, hc]; exact next_nl h ok (by omega) hc
  ·rw [if_neg hc]; exact next_plain h ok (by omega) hc
end
def isWS (c : Nat) : Bool := c == 9 || c == 32
def isNLb (c : Nat) : Bool := c == 10 || c == 13
def isSep (c : Nat) : Bool := c == 61 || c == 58
def isSp (c : Nat) : Bool := c == 9 || c == 10 || c == 11 || c == 12 || c == 13 || c == 32
def isDig (c : Nat) : Bool := decide (48 ≤ c) && decide (c ≤ 57)
def isSuf (c : Nat) : Bool := c == 107 || c == 75 || c == 109 || c == 77 || c == 103 || c == 71 || c == 116 || c == 84 || c == 112 || c == 80 || c == 101 || c == 69
set_option maxHeartbeats 1000000
theorem isWS_c (c : Nat) (hc : c < 128) (w : World) : Calls Tryz.prog 133 #[.int .i32 c] w fun e w' => e = .returned (.bool (isWS c)) ∧ w' = w := by
 by_cases h9 : c = 9
 ·subst h9
  clear hc; go_enter Tryz.func133, Tryz.ntmps133; go_wp2; go_ret
  exact ⟨rfl, rfl⟩
 have e9 : ((c : Int) == 9) = false := by simp; omega
 by_cases h32 : c = 32
 ·subst h32
  clear hc; go_enter Tryz.func133, Tryz.ntmps133; go_wp2; go_ret
  exact ⟨rfl, rfl⟩
 have e32 : ((c : Int) == 32) = false := by simp; omega
 have hv : isWS c = false := by simp [isWS, h9, h32]
 rw [hv]; clear h9; clear h32; clear hc hv; go_enter Tryz.func133, Tryz.ntmps133; go_wp2; go_ret
 exact ⟨rfl, rfl⟩
theorem isNLb_c (c : Nat) (hc : c < 128) (w : World) : Calls Tryz.prog 134 #[.int .i32 c] w fun e w' => e = .returned (.bool (isNLb c)) ∧ w' = w := by
 by_cases h10 : c = 10
 ·subst h10
  clear hc; go_enter Tryz.func134, Tryz.ntmps134; go_wp2; go_ret
  exact ⟨rfl, rfl⟩
 have e10 : ((c : Int) == 10) = false := by simp; omega
 by_cases h13 : c = 13
 ·subst h13
  clear hc; go_enter Tryz.func134, Tryz.ntmps134; go_wp2; go_ret
  exact ⟨rfl, rfl⟩
 have e13 : ((c : Int) == 13) = false := by simp; omega
 have hv : isNLb c = false := by simp [isNLb, h10, h13]
 rw [hv]; clear h10; clear h13; clear hc hv; go_enter Tryz.func134, Tryz.ntmps134; go_wp2; go_ret
 exact ⟨rfl, rfl⟩
theorem isSep_c (c : Nat) (hc : c < 128) (w : World) : Calls Tryz.prog 136 #[.int .i32 c] w fun e w' => e = .returned (.bool (isSep c)) ∧ w' = w := by
 by_cases h61 : c = 61
 ·subst h61
  clear hc; go_enter Tryz.func136, Tryz.ntmps136; go_wp2; go_ret
  exact ⟨rfl, rfl⟩
 have e61 : ((c : Int) == 61) = false := by simp; omega
 by_cases h58 : c = 58
 ·subst h58
  clear hc; go_enter Tryz.func136, Tryz.ntmps136; go_wp2; go_ret
  exact ⟨rfl, rfl⟩
 have e58 : ((c : Int) == 58) = false := by simp; omega
 have hv : isSep c = false := by simp [isSep, h61, h58]
 rw [hv]; clear h61; clear h58; clear hc hv; go_enter Tryz.func136, Tryz.ntmps136; go_wp2; go_ret
 exact ⟨rfl, rfl⟩
theorem isSuf_c (c : Nat) (hc : c < 128) (w : World) : Calls Tryz.prog 211 #[.int .i32 c] w fun e w' => e = .returned (.bool (isSuf c)) ∧ w' = w := by
 by_cases h107 : c = 107
 ·subst h107
  clear hc; go_enter Tryz.func211, Tryz.ntmps211; go_wp2; go_ret
  exact ⟨rfl, rfl⟩
 have e107 : ((c : Int) == 107) = false := by simp; omega
 by_cases h75 : c = 75
 ·subst h75
  clear hc; go_enter Tryz.func211, Tryz.ntmps211; go_wp2; go_ret
  exact ⟨rfl, rfl⟩
 have e75 : ((c : Int) == 75) = false := by simp; omega
 by_cases h109 : c = 109
 ·subst h109
  clear hc; go_enter Tryz.func211, Tryz.ntmps211; go_wp2; go_ret
  exact ⟨rfl, rfl⟩
 have e109 : ((c : Int) == 109) = false := by simp; omega
 by_cases h77 : c = 77
 ·subst h77
  clear hc; go_enter Tryz.func211, Tryz.ntmps211; go_wp2; go_ret
  exact ⟨rfl, rfl⟩
 have e77 : ((c : Int) == 77) = false := by simp; omega
 by_cases h103 : c = 103
 ·subst h103
  clear hc; go_enter Tryz.func211, Tryz.ntmps211; go_wp2; go_ret
  exact ⟨rfl, rfl⟩
 have e103 : ((c : Int) == 103) = false := by simp; omega
 by_cases h71 : c = 71
 ·subst h71
  clear hc; go_enter Tryz.func211, Tryz.ntmps211; go_wp2; go_ret
  exact ⟨rfl, rfl⟩
 have e71 : ((c : Int) == 71) = false := by simp; omega
 by_cases h116 : c = 116
 ·subst h116
  clear hc; go_enter Tryz.func211, Tryz.ntmps211; go_wp2; go_ret
  exact ⟨rfl, rfl⟩
 have e116 : ((c : Int) == 116) = false := by simp; omega
 by_cases h84 : c = 84
 ·subst h84
  clear hc; go_enter Tryz.func211, Tryz.ntmps211; go_wp2; go_ret
  exact ⟨rfl, rfl⟩
 have e84 : ((c : Int) == 84) = false := by simp; omega
 by_cases h112 : c = 112
 ·subst h112
  clear hc; go_enter Tryz.func211, Tryz.ntmps211; go_wp2; go_ret
  exact ⟨rfl, rfl⟩
 have e112 : ((c : Int) == 112) = false := by simp; omega
 by_cases h80 : c = 80
 ·subst h80
  clear hc; go_enter Tryz.func211, Tryz.ntmps211; go_wp2; go_ret
  exact ⟨rfl, rfl⟩
 have e80 : ((c : Int) == 80) = false := by simp; omega
 by_cases h101 : c = 101
 ·subst h101
  clear hc; go_enter Tryz.func211, Tryz.ntmps211; go_wp2; go_ret
  exact ⟨rfl, rfl⟩
 have e101 : ((c : Int) == 101) = false := by simp; omega
 by_cases h69 : c = 69
 ·subst h69
  clear hc; go_enter Tryz.func211, Tryz.ntmps211; go_wp2; go_ret
  exact ⟨rfl, rfl⟩
 have e69 : ((c : Int) == 69) = false := by simp; omega
 have hv : isSuf c = false := by simp [isSuf, h107, h75, h109, h77, h103, h71, h116, h84, h112, h80, h101, h69]
 rw [hv]; clear h107; clear h75; clear h109; clear h77; clear h103; clear h71; clear h116; clear h84; clear h112; clear h80; clear h101; clear h69; clear hc hv; go_enter Tryz.func211, Tryz.ntmps211; go_wp2; go_ret
 exact ⟨rfl, rfl⟩
theorem isSp_c (c : Nat) (hc : c < 128) (w : World) : Calls Tryz.prog 86 #[.int .i32 c] w fun e w' => e = .returned (.bool (isSp c)) ∧ w' = w := by
 by_cases h9 : c = 9
 ·subst h9
  clear hc; go_enter Tryz.func86, Tryz.ntmps86; go_wp2; go_ret
  exact ⟨rfl, rfl⟩
 have e9 : ((c : Int) == 9) = false := by simp; omega
 by_cases h10 : c = 10
 ·subst h10
  clear hc; go_enter Tryz.func86, Tryz.ntmps86; go_wp2; go_ret
  exact ⟨rfl, rfl⟩
 have e10 : ((c : Int) == 10) = false := by simp; omega
 by_cases h11 : c = 11
 ·subst h11
  clear hc; go_enter Tryz.func86, Tryz.ntmps86; go_wp2; go_ret
  exact ⟨rfl, rfl⟩
 have e11 : ((c : Int) == 11) = false := by simp; omega
 by_cases h12 : c = 12
 ·subst h12
  clear hc; go_enter Tryz.func86, Tryz.ntmps86; go_wp2; go_ret
  exact ⟨rfl, rfl⟩
 have e12 : ((c : Int) == 12) = false := by simp; omega
 by_cases h13 : c = 13
 ·subst h13
  clear hc; go_enter Tryz.func86, Tryz.ntmps86; go_wp2; go_ret
  exact ⟨rfl, rfl⟩
 have e13 : ((c : Int) == 13) = false := by simp; omega
 by_cases h32 : c = 32
 ·subst h32
  clear hc; go_enter Tryz.func86, Tryz.ntmps86; go_wp2; go_ret
  exact ⟨rfl, rfl⟩
 have e32 : ((c : Int) == 32) = false := by simp; omega
 have hv : isSp c = false := by simp [isSp, h9, h10, h11, h12, h13, h32]
 rw [hv]; clear h9; clear h10; clear h11; clear h12; clear h13; clear h32; have e133 : ((c : Int) == 133) = false := by simp; omega
 have e160 : ((c : Int) == 160) = false := by simp; omega
 have hc' : (c : Int) ≤ 255 := by omega
 have hcw : IntKind.u32.wrap (c : Int) = c := by show IntKind.wrap .u32 (c : Int) = c; simp [IntKind.wrap, IntKind.bits, IntKind.signed]; omega
 clear hc hv; go_enter Tryz.func86, Tryz.ntmps86; go_wp2; go_ret
 exact ⟨rfl, rfl⟩
theorem isDig_c (c : Nat) (hc : c < 128) (w : World) : Calls Tryz.prog 67 #[.int .i32 c] w fun e w' => e = .returned (.bool (isDig c)) ∧ w' = w := by
 have hc' : (c : Int) ≤ 255 := by omega
 by_cases h48 : 48 ≤ c
 ·have g48 : decide ((48 : Int) ≤ (c : Int)) = true := by simp; omega
  by_cases h57 : c ≤ 57
  ·have g57 : decide ((c : Int) ≤ 57) = true := by simp; omega
   have hv : isDig c = true := by simp [isDig, h48, h57]
   rw [hv]; clear hv; go_enter Tryz.func67, Tryz.ntmps67; go_wp2; go_ret
   exact ⟨rfl, rfl⟩
  ·have g57 : decide ((c : Int) ≤ 57) = false := by simp; omega
   have hv : isDig c = false := by simp [isDig, h57]
   rw [hv]; clear hv; go_enter Tryz.func67, Tryz.ntmps67; go_wp2; go_ret
   exact ⟨rfl, rfl⟩
 ·have g48 : decide ((48 : Int) ≤ (c : Int)) = false := by simp; omega
  have hv : isDig c = false := by simp [isDig, h48]
  rw [hv]; clear hv; go_enter Tryz.func67, Tryz.ntmps67; go_wp2; go_ret
  exact ⟨rfl, rfl⟩
section
variable {base : Nat} {S0 : Nat → Prop} {w0 w : World} {b : Nat} {L : LX}
theorem At.any {w' : World} (h : At base S0 w0 w b L) (hh : w'.heap = w.heap) (ho : w'.os = w.os) (ht : w'.tape = w.tape) (hu : w'.output = w.output) : At base S0 w0 w' b L := by
 have e : w' = { w with drawn := w'.drawn } := by cases w; cases w'; simp_all
 rw [e]; obtain ⟨S, tv, sv, pv, h1, h2, h3⟩ := h; exact ⟨S, tv, sv, pv, ⟨h1.blk, h1.chan, h1.stack, h1.parts, h1.st, h1.hb, h1.hch, h1.hsv, h1.hpv, h1.base, h1.stv⟩, ⟨h2.os, h2.tape, h2.output, h2.size, h2.block⟩, h3⟩
theorem ign_c (h : At base S0 w0 w b L) :
  Calls Tryz.prog 126 #[.pointer (some ⟨b, 0, none⟩)] w fun e w' => e = .returned (.tuple #[]) ∧ At base S0 w0 w' b L.ign := by
 have c1 := h.c1; have c2 := h.c2; have c10 := h.c10; have c11 := h.c11; have f1 := h.free 1; have f11 := h.free 11; go_enter Tryz.func126, Tryz.ntmps126; go_wp2; go_end0
 exact ⟨rfl, (h.set (L' := { L with start := L.pos }) 1 (i64 L.pos) (fun _ _ _ => rfl) rfl rfl rfl rfl rfl rfl rfl).set (L' := L.ign) 11 (i64 L.lstart) (fun _ _ _ => rfl) rfl rfl rfl rfl rfl rfl rfl⟩
set_option maxRecDepth 100000 in
theorem back_eof (h : At base S0 w0 w b L) (ok : L.Ok) (p : Nat) (hp : L.pos = p + L.width) (hq : L.inp.size ≤ p) :
  Calls Tryz.prog 91 #[.pointer (some ⟨b, 0, none⟩)] w fun e w' => e = .returned (.tuple #[]) ∧ At base S0 w0 w' b { L with pos := p } := by
 have c0 := h.c0; have c2 := h.c2; have c3 := h.c3; have f2 := h.free 2; have hsm := ok.small; have hpp := ok.pos; have hwd := ok.width; have g : decide (p < L.inp.size) = false := by simp; omega
 rw [hp] at c2 hpp; rw [Int.natCast_add] at c2; have HP := Lib.hid hp; clear hp; go_enter Tryz.func91, Tryz.ntmps91; go_wp2; refine wp_still_tail 11 mixed (by kernel_rfl) ?_
 simp only [List.take_succ_cons, List.take_zero, List.drop_succ_cons, List.drop_zero]
 repeat (still_step)
 refine wpStill_nil ?_
 go_wp2; go_quiet (fail)
 go_wp2; go_end0
 exact ⟨rfl, At.any (h.set (L' := { L with pos := p }) 2 (i64 p) (fun _ _ _ => rfl) rfl rfl rfl rfl rfl rfl rfl) rfl rfl rfl rfl⟩
set_option maxRecDepth 100000 in
theorem back_plain (h : At base S0 w0 w b L) (ok : L.Ok) (p : Nat) (hp : L.pos = p + L.width) (hq : p < L.inp.size) (hn : byteAt L.inp p ≠ 10) :
  Calls Tryz.prog 91 #[.pointer (some ⟨b, 0, none⟩)] w fun e w' => e = .returned (.tuple #[]) ∧ At base S0 w0 w' b { L with pos := p } := by
 have c0 := h.c0; have c2 := h.c2; have c3 := h.c3; have f2 := h.free 2; have hsm := ok.small; have hpp := ok.pos; have hwd := ok.width; have g : decide (p < L.inp.size) = true := by simp; omega
 have hb : (((L.inp[p]'hq).toNat : Int) == 10) = false := by rw [byteAt_get]; simp; omega
 rw [hp] at c2 hpp; rw [Int.natCast_add] at c2; have HP := Lib.hid hp; clear hp; have HN := Lib.hid hn; clear hn; go_enter Tryz.func91, Tryz.ntmps91; go_wp2; refine wp_still_tail 11 mixed (by kernel_rfl) ?_
 simp only [List.take_succ_cons, List.take_zero, List.drop_succ_cons, List.drop_zero]
 repeat (still_step)
 refine wpStill_nil ?_
 go_wp2; go_quiet (fail)
 go_wp2; go_end0
 exact ⟨rfl, At.any (h.set (L' := { L with pos := p }) 2 (i64 p) (fun _ _ _ => rfl) rfl rfl rfl rfl rfl rfl rfl) rfl rfl rfl rfl⟩
set_option maxRecDepth 100000 in
theorem back_nl (h : At base S0 w0 w b L) (ok : L.Ok) (p : Nat) (hp : L.pos = p + L.width) (hq : p < L.inp.size) (hn : byteAt L.inp p = 10) :
  Calls Tryz.prog 91 #[.pointer (some ⟨b, 0, none⟩)] w fun e w' => e = .returned (.tuple #[]) ∧ At base S0 w0 w' b { L with pos := p, line := L.line - 1 } := by
 have c0 := h.c0; have c2 := h.c2; have c3 := h.c3; have f2 := h.free 2; have hsm := ok.small; have hpp := ok.pos; have hwd := ok.width; have g : decide (p < L.inp.size) = true := by simp; omega
 have hb : (((L.inp[p]'hq).toNat : Int) == 10) = true := by rw [byteAt_get, hn]; rfl
 have c4 := h.c4; have f4 := h.free 4; have hl0 := ok.line0; have hl1 := ok.line1; rw [hp] at c2 hpp; rw [Int.natCast_add] at c2; have HP := Lib.hid hp; clear hp; have HN := Lib.hid hn; clear hn; go_enter Tryz.func91, Tryz.ntmps91; go_wp2; refine wp_still_tail 11 mixed (by kernel_rfl) ?_
 simp only [List.take_succ_cons, List.take_zero, List.drop_succ_cons, List.drop_zero]
 repeat (still_step)
 refine wpStill_nil ?_
 go_wp2; go_quiet (fail)
 go_wp2; go_end0
 exact ⟨rfl, At.any ((h.set (L' := { L with pos := p }) 2 (i64 p) (fun _ _ _ => rfl) rfl rfl rfl rfl rfl rfl rfl).set (L' := { L with pos := p, line := L.line - 1 }) 4 (i64 (L.line - 1)) (fun _ _ _ => rfl) rfl rfl rfl rfl rfl rfl rfl) rfl rfl rfl rfl⟩
theorem back_c (h : At base S0 w0 w b L) (ok : L.Ok) (hw : L.width ≤ L.pos) :
  Calls Tryz.prog 91 #[.pointer (some ⟨b, 0, none⟩)] w fun e w' => e = .returned (.tuple #[]) ∧ At base S0 w0 w' b L.back := by
 unfold LX.back; have hp : L.pos = (L.pos - L.width) + L.width := by omega
 by_cases hq : L.pos - L.width < L.inp.size
 ·by_cases hn : byteAt L.inp (L.pos - L.width) = 10
  ·rw [if_pos ⟨hq, hn⟩]; exact back_nl h ok _ hp hq hn
  ·rw [if_neg (fun e => hn e.2)]; exact back_plain h ok _ hp hq hn
 ·rw [if_neg (fun e => hq e.1)]; exact back_eof h ok _ hp (by omega)
end
theorem info107 : (Tryz.prog.info? 107).map (fun i => (i.zero, i.size, i.bytes)) = some (some .nilFunc, 1, 8) := by kernel_rfl
section
variable {base : Nat} {S0 : Nat → Prop} {w0 w : World} {b : Nat} {L : LX}
theorem peek_c (h : At base S0 w0 w b L) (ok : L.Ok) :
  Calls Tryz.prog 135 #[.pointer (some ⟨b, 0, none⟩)] w fun e w' => e = .returned (.int .i32 L.chr) ∧ At base S0 w0 w' b L.pk := by
 go_enter Tryz.func135, Tryz.ntmps135; go_wp2_with fail
 refine (next_c h ok).mono ?_
 rintro e w1 ⟨rfl, h1⟩; go_wp2_with fail
 refine (back_c h1 ok.nxt (nxt_width L)).mono ?_
 rintro e w2 ⟨rfl, h2⟩; rw [nxt_back] at h2; go_wp2_with fail
 go_ret
 exact ⟨rfl, h2⟩
theorem At.grow {S : Nat → Prop} {tv sv pv : Value} (h1 : LexAt base S w b L tv sv pv) (h2 : Fr S0 w0 w) (h3 : ∀ k, S k → S0 k ∨ (w0.heap.size ≤ k ∧ k < w.heap.size)) : At base S0 w0 w b L := ⟨S, tv, sv, pv, h1, h2, h3⟩
theorem LexAt.blk_lt {S : Nat → Prop} {tv sv pv : Value} (h : LexAt base S w b L tv sv pv) : b < w.heap.size := lt_of_block h.blk
theorem RepV.below {S : Nat → Prop} {w1 : World} {v : Value} {t : Tag} (h : RepV S w v t) (hb : Below w.heap.size w w1) : RepV S w1 v t := by
 match t, h with
 | none, h => exact h
 | some (false, n), h => exact h
 | some (true, n), ⟨g, hv, hg, hs⟩ => exact ⟨g, hv, (hb.block g (lt_of_block hg)).trans hg, hs⟩
theorem ownsRow_below {w1 : World} {e : TypeId} {size n : Nat} {v : Value} {xs : List Value} (h : w.ownsRow base e size v n xs) (hb : Below w.heap.size w w1) : w1.ownsRow base e size v n xs := by
 obtain ⟨hx, h0 | ⟨g, cap, cur, hv, hbg, hblk, hrest⟩⟩ := h
 ·exact ⟨hx, .inl h0⟩
 ·exact ⟨hx, .inr ⟨g, cap, cur, hv, hbg, (hb.block g (lt_of_block hblk)).trans hblk, hrest⟩⟩
theorem LexAt.below {S : Nat → Prop} {tv sv pv : Value} {w1 : World} (h : LexAt base S w b L tv sv pv) (hb : Below w.heap.size w w1) : LexAt base S w1 b L tv sv pv where
 blk := (hb.block b (lt_of_block h.blk)).trans h.blk
 chan := (hb.block L.ch (lt_of_block h.chan)).trans h.chan
 stack := ownsRow_below h.stack hb
 parts := ownsRow_below h.parts hb
 st := h.st.below hb
 hb := h.hb
 hch := h.hch
 hsv := h.hsv
 hpv := h.hpv
 base := h.base
 stv := h.stv
theorem At.below {w1 : World} (h : At base S0 w0 w b L) (hb : Below w.heap.size w w1) : At base S0 w0 w1 b L := by
 obtain ⟨S, tv, sv, pv, h1, h2, h3⟩ := h; refine ⟨S, tv, sv, pv, h1.below hb, h2.trans (Fr.below hb (fun _ => False)) (fun _ h => h.elim), ?_⟩
 intro k hk
 rcases h3 k hk with h | h
 ·exact .inl h
 ·exact .inr ⟨h.1, Nat.lt_of_lt_of_le h.2 hb.size⟩
end
section
variable {base : Nat} {S0 : Nat → Prop} {w0 w : World} {b : Nat} {L : LX}
theorem At.blk (h : At base S0 w0 w b L) : ∃ cs : Array Value, w.heap[b]? = some (.cells cs 109 (0, 0)) := by obtain ⟨S, tv, sv, pv, h1, _⟩ := h; exact ⟨_, h1.blk⟩
theorem skip1_c (h : At base S0 w0 w b L) (n g : Nat) (hg : w.heap[g]? = some (.cells #[fnV n] 107 (0, 0))) :
  Calls Tryz.prog 125 #[.pointer (some ⟨b, 0, none⟩), .pointer (some ⟨g, 0, none⟩)] w fun e w' => e = .returned (fnV n) ∧ At base S0 w0 w' b L.ign := by
 have hgb : g ≠ b := by
  obtain ⟨cs, hb⟩ := h.blk; intro e; rw [e, hb] at hg
  injection hg with hg
  injection hg with _ h2 _
  cases h2
 have hbg : b ≠ g := fun e => hgb e.symm
 have cg := blk_cell hg 0; simp at cg
 have c1 := h.c1; have c2 := h.c2; have c10 := h.c10; have c11 := h.c11; have f1 := h.free 1; have f11 := h.free 11; clear hg; go_enter Tryz.func125, Tryz.ntmps125; go_wp2; go_end0
 go_wp2; go_ret
 exact ⟨rfl, At.any ((h.set (L' := { L with start := L.pos }) 1 (i64 L.pos) (fun _ _ _ => rfl) rfl rfl rfl rfl rfl rfl rfl).set (L' := L.ign) 11 (i64 L.lstart) (fun _ _ _ => rfl) rfl rfl rfl rfl rfl rfl rfl) rfl rfl rfl rfl⟩
theorem grown_ne {S : Nat → Prop} {tv sv pv : Value} {w1 : World} (h : LexAt base S w b L tv sv pv) (hg : w.grownBy w1 sv.ownBlock) : w1.heap[b]? = w.heap[b]? :=
 hg.block b (lt_of_block h.blk) (fun e => own_ne_blk h.stack h.blk (by decide) e.symm)
theorem app_one {P : Program} {ops : Array Oper} {rest : List Oper} {o : Oper} {a : Act} {Q : Exit → Act → World → Prop} {W : World} (base : Nat) (hgd : o.guard = none) (s x : Operand) (t e : TypeId) (z : Value) (size bytes : Nat)
  (ho : o.op = .call { callee := .builtin .append, args := #[s, x], argTypes := #[t, t] })
  (ht : P.underlying t = some (.slice e)) (hinfo : (P.info? e).map (fun i => (i.zero, i.size, i.bytes)) = some (some z, size, bytes)) (hz : z.cells.size = size) (hs0 : 0 < size) (hb0 : 0 < bytes)
  (v : Value) (n : Nat) (xs ys : List Value) (hs : a.eval s = v) (hx : a.eval x = .slice (some ⟨W.heap.size, 0, none⟩) 1 1) (hys : ys.length = size) (h1 : ∀ u ∈ ys, u.oneCell' = true)
  (HO : W.ownsRow base e size v n xs) (hbase : base ≤ W.heap.size) (hl : (n + 1) * bytes ≤ 140737488355328)
  (h : ∀ v1 w1, w1.ownsRow base e size v1 (n + 1) (xs ++ ys) → W.grownBy w1 v.ownBlock → (v1.ownBlock = v.ownBlock ∨ ∃ b, v1.ownBlock = some b ∧ W.heap.size ≤ b) → wpList P ops Q rest (a.put o.dst v1) w1) :
  wpList P ops Q (o :: rest) a (W.alloc (.cells ys.toArray e)) := by
 obtain ⟨i0, hi, hzz⟩ := Option.map_eq_some_iff.1 hinfo; simp only [Prod.mk.injEq] at hzz
 obtain ⟨hz0, hz1, hz2⟩ := hzz; have hlen : n + 1 ≤ 140737488355328 := Nat.le_trans (Nat.le_mul_of_pos_right _ hb0) hl
 refine wpList_append_own_at (W.alloc (.cells ys.toArray e)) hgd s x t ho base e i0 z size bytes ht hi hz0 hz1 hz2 hz hs0 v n xs hs (HO.alloc _) ⟨W.heap.size, 0, none⟩ 1 1 ys hx (by rw [hys]; simp)
  (by simpa using World.news_of_block (cs := ys.toArray) (t := e) (fr := (0, 0)) (heap_alloc_new W (.cells ys.toArray e))) h1 (by simp only [maxLen]; omega) hl (by simp; omega) ?_
 intro v1 w1 hown hg _ hat; refine h v1 w1 hown (World.grownBy.trans (World.grownBy_alloc W _ _) hg) ?_
 rcases hat with hat | hat
 ·exact .inl hat
 ·exact .inr ⟨_, hat, by simp⟩
theorem ownsRow_kept {w1 : World} {e : TypeId} {size n : Nat} {v : Value} {xs : List Value} {row : Option Nat} (h : w.ownsRow base e size v n xs) (hg : w.grownBy w1 row) (hne : ∀ k, v.ownBlock = some k → some k ≠ row) : w1.ownsRow base e size v n xs := by
 obtain ⟨hx, h0 | ⟨g, cap, cur, hv, hbg, hblk, hrest⟩⟩ := h
 ·exact ⟨hx, .inl h0⟩
 ·exact ⟨hx, .inr ⟨g, cap, cur, hv, hbg, (hg.block g (lt_of_block hblk) (hne g (by rw [hv]; rfl))).trans hblk, hrest⟩⟩
theorem LexAt.pushed {S : Nat → Prop} {tv sv pv sv' : Value} {w1 : World} {n : Nat} (h : LexAt base S w b L tv sv pv) (hg : w.grownBy w1 sv.ownBlock) (hown : w1.ownsRow base 107 1 sv' (L.stack.length + 1) (L.stack.map fnV ++ [fnV n]))
  (hat : sv'.ownBlock = sv.ownBlock ∨ ∃ k, sv'.ownBlock = some k ∧ w.heap.size ≤ k) :
  LexAt base (fun k => S k ∨ (w.heap.size ≤ k ∧ k < w1.heap.size)) (w1.setCell ⟨b, 7, none⟩ sv') b { L with stack := L.stack ++ [n] } tv sv' pv where
 blk := by
  have h1 : w1.heap[b]? = some (.cells (L.cells tv sv pv) 109 (0, 0)) := (grown_ne h hg).trans h.blk
  rw [blk_setCell h1]; rfl
 chan := by
  rw [Below.heap_setCell _ _ _ _ h.ne_chan]; refine (hg.block L.ch (lt_of_block h.chan) ?_).trans h.chan
  intro e; obtain ⟨_, ⟨h0, _⟩ | ⟨g, cap, cur, hv, _, hblk, _⟩⟩ := h.stack
  ·rw [h0] at e; cases e
  ·rw [hv] at e
   simp only [Value.ownBlock, Option.some.injEq] at e
   subst e; rw [h.chan] at hblk; cases hblk
 stack := by
  have h1 : w1.heap[b]? = some (.cells (L.cells tv sv pv) 109 (0, 0)) := (grown_ne h hg).trans h.blk
  have h2 := ownsRow_setCell_other hown (a := ⟨b, 7, none⟩) (own_ne_blk hown h1 (by decide)) sv'
  simpa using h2
 parts := by
  have hne : ∀ k, pv.ownBlock = some k → some k ≠ sv.ownBlock := by
   intro k hk e; obtain ⟨_, ⟨h0, _⟩ | ⟨g, cap, cur, hv, _, hblk, _⟩⟩ := h.stack
   ·rw [h0] at e; cases e
   ·rw [hv] at e
    simp only [Value.ownBlock, Option.some.injEq] at e
    subst e; exact own_ne_blk h.parts hblk (by decide) hk
  have hp1 := ownsRow_kept h.parts hg hne; have h1 : w1.heap[b]? = some (.cells (L.cells tv sv pv) 109 (0, 0)) := (grown_ne h hg).trans h.blk
  exact ownsRow_setCell_other hp1 (a := ⟨b, 7, none⟩) (own_ne_blk hp1 h1 (by decide)) sv'
 st := by
  have h1 : w1.heap[b]? = some (.cells (L.cells tv sv pv) 109 (0, 0)) := (grown_ne h hg).trans h.blk
  refine RepV.far ?_ h1 7 sv'
  match ht : L.state, h.st with
  | none, h => exact h
  | some (false, n), h => exact h
  | some (true, m), ⟨g, hv, hgb, hs⟩ =>
   refine ⟨g, hv, (hg.block g (lt_of_block hgb) ?_).trans hgb, .inl hs⟩
   intro e; exact h.stv g e m ht hv
 hb := .inl h.hb
 hch := .inl h.hch
 hsv := by
  intro k hk
  rcases hat with h1 | ⟨k', h1, h2⟩
  ·exact .inl (h.hsv k (by rw [← h1]; exact hk))
  ·rw [hk] at h1; cases h1
   refine .inr ⟨h2, ?_⟩
   obtain ⟨_, ⟨h0, _⟩ | ⟨g, cap, cur, hv, _, hblk, _⟩⟩ := hown
   ·rw [h0] at hk; cases hk
   ·rw [hv] at hk; simp only [Value.ownBlock, Option.some.injEq] at hk; subst hk; exact lt_of_block hblk
 hpv := fun k hk => .inl (h.hpv k hk)
 base := h.base
 stv := by
  intro g hg2 m hm
  rcases hat with h1 | ⟨k', h1, h2⟩
  ·exact h.stv g (by rw [← h1]; exact hg2) m hm
  ·intro e
   have hst := h.st; rw [show L.state = some (true, m) from hm] at hst
   obtain ⟨g', hv', hgb, _⟩ := hst; rw [e] at hv'; rw [← hg2] at h1
   injection hv' with _ _ hv'
   simp at hv' h1
   have := lt_of_block hgb
   omega
theorem push_c (h : At base S0 w0 w b L) (n : Nat) (hst : L.stack.length ≤ 1000000) :
  Calls Tryz.prog 88 #[.pointer (some ⟨b, 0, none⟩), fnV n] w fun e w' => e = .returned (.tuple #[]) ∧ At base S0 w0 w' b { L with stack := L.stack ++ [n] } := by
 obtain ⟨S, tv, sv, pv, h1, h2, h3⟩ := h; have c7 := h1.c7; have f7 := h1.free 7; have hbl := lt_of_block h1.blk; have hown := h1.stack; have hbase := h1.base; have hbs := own_ne_blk h1.stack h1.blk (by decide)
 have hlen : (L.stack.length + 1) * 8 ≤ 140737488355328 := by omega
 go_enter Tryz.func88, Tryz.ntmps88; go_wp2_with (at_builtin; refine app_one base rfl _ _ 106 107 .nilFunc 1 8 rfl Tryz.underlying106 info107 rfl (by decide) (by decide) sv L.stack.length (L.stack.map fnV) [fnV n] rfl rfl rfl (by simp [fnV]; rfl) hown (by omega) hlen ?_)
 intro sv' w1 hown1 hg1 hat1; have hc7 : w1.cell? ⟨b, 7, none⟩ = some sv := blk_cell ((grown_ne h1 hg1).trans h1.blk) 7
 have hf7 : w1.frozen? ⟨b, 7, none⟩ = false := blk_free ((grown_ne h1 hg1).trans h1.blk) 7
 have K := h1.pushed hg1 hown1 hat1; have KF : Fr S0 w0 (w1.setCell ⟨b, 7, none⟩ sv') := by
  refine (h2.grown hg1 ?_).setCell ?_ _
  ·intro k hk
   rcases h3 k (h1.hsv k hk) with h | h
   ·exact .inl h
   ·exact .inr h.1
  ·rcases h3 b h1.hb with h | h
   ·exact .inl h
   ·exact .inr h.1
 have KS : ∀ k, (S k ∨ (w.heap.size ≤ k ∧ k < w1.heap.size)) → S0 k ∨ (w0.heap.size ≤ k ∧ k < (w1.setCell ⟨b, 7, none⟩ sv').heap.size) := by
  intro k hk; have := hg1.size
  have := h2.size
  rw [World.size_setCell]
  rcases hk with hk | hk
  ·rcases h3 k hk with h | h
   ·exact .inl h
   ·exact .inr ⟨h.1, by omega⟩
  ·exact .inr ⟨by omega, hk.2⟩
 have KK := At.grow K KF KS; obtain ⟨X, hX⟩ : ∃ X, X = (At base S0 w0 (w1.setCell ⟨b, 7, none⟩ sv') b { L with stack := L.stack ++ [n] }) := ⟨_, rfl⟩
 rw [← hX] at KK; have HX := Lib.hid hX; obtain ⟨A7, C7, e7⟩ : ∃ A c, sv' = .slice A (L.stack.length + 1) c := by
  obtain ⟨_, ⟨h0, hz⟩ | ⟨g, cap, cur, hv, _⟩⟩ := hown1
  ·exact absurd hz (by omega)
  ·exact ⟨_, _, hv⟩
 clear hX hown1 hg1 hat1 K KF KS h1 h2 h3 hown c7 f7 hbs; rw [e7] at HX; subst e7; go_wp2; go_end0
 exact ⟨rfl, by rw [← HX.out]; exact KK⟩
end
section
variable {base : Nat} {S0 : Nat → Prop} {w0 w : World} {b : Nat} {L : LX}
theorem own_open {e : TypeId} {n : Nat} {v : Value} {xs : List Value} (h : w.ownsRow base e 1 v n xs) (hn : 0 < n) :
  ∃ g cap, v = .slice (some ⟨g, 0, none⟩) n cap ∧ n ≤ cap ∧ cap ≤ maxLen ∧ (∀ j u, xs[j]? = some u → w.cell? ⟨g, j, none⟩ = some u) ∧ (∃ cur, w.heap[g]? = some (.cells cur e (0, 0))) := by
 obtain ⟨hx, ⟨_, h0⟩ | ⟨g, cap, cur, hv, _, hblk, h1, h2, h3, h4⟩⟩ := h
 ·omega
 ·refine ⟨g, cap, hv, h1, h2, ?_, cur, hblk⟩
  intro j u hj; rw [blk_cell hblk, ← Array.getElem?_toList]; rw [← h4, List.getElem?_take] at hj
  split at hj
  ·exact hj
  ·cases hj
theorem own_shorter {e : TypeId} {n m : Nat} {g cap : Nat} {xs ys : List Value} (h : w.ownsRow base e 1 (.slice (some ⟨g, 0, none⟩) n cap) n (xs ++ ys)) (hm : xs.length = m) (hmn : m ≤ n) : w.ownsRow base e 1 (.slice (some ⟨g, 0, none⟩) m cap) m xs := by
 obtain ⟨hx, ⟨h0, _⟩ | ⟨g', cap', cur, hv, hb, hblk, h1, h2, h3, h4⟩⟩ := h
 ·cases h0
 ·simp only [Value.slice.injEq, Option.some.injEq, Addr.mk.injEq] at hv
  obtain ⟨⟨rfl, _, _⟩, _, rfl⟩ := hv; refine ⟨by omega, .inr ⟨g, cap, cur, rfl, hb, hblk, by omega, h2, h3, ?_⟩⟩
  have := congrArg (List.take (m * 1)) h4
  rw [List.take_take, Nat.min_eq_left (by omega)] at this
  rw [this, List.take_left' (by omega)]
theorem pop_c (st : List Nat) (n : Nat) (h : At base S0 w0 w b L) (hst : L.stack = st ++ [n]) (hlen : st.length ≤ 1000000) :
  Calls Tryz.prog 128 #[.pointer (some ⟨b, 0, none⟩)] w fun e w' => e = .returned (fnV n) ∧ At base S0 w0 w' b { L with stack := st } := by
 obtain ⟨S, tv, sv, pv, h1, h2, h3⟩ := h; have c7 := h1.c7; have f7 := h1.free 7; have hown := h1.stack; rw [hst, List.length_append, List.length_singleton, List.map_append] at hown; obtain ⟨g, cap, rfl, hcap, hmx, hcell, cur, hgb⟩ := own_open hown (by omega)
 have hcl := hcell st.length (fnV n) (by simp)
 have hown2 := own_shorter (m := st.length) hown (by simp) (by omega)
 have hne : g ≠ b := by
  intro e; rw [e, h1.blk] at hgb
  injection hgb with hgb
  injection hgb with _ h2 _
  cases h2
 have hpost : At base S0 w0 (w.setCell ⟨b, 7, none⟩ (.slice (some ⟨g, 0, none⟩) st.length cap)) b { L with stack := st } := by
  refine ⟨S, tv, .slice (some ⟨g, 0, none⟩) st.length cap, pv, ?_, h2.setCell ?_ _, ?_⟩
  ·exact {
    blk := by rw [blk_setCell h1.blk]; rfl
    chan := by rw [Below.heap_setCell _ _ _ _ h1.ne_chan]; exact h1.chan
    stack := ownsRow_setCell_other hown2 (by simp only [Value.ownBlock, ne_eq, Option.some.injEq]; exact hne) _
    parts := ownsRow_setCell_other h1.parts (own_ne_blk h1.parts h1.blk (by decide)) _
    st := h1.st.far h1.blk 7 _
    hb := h1.hb
    hch := h1.hch
    hsv := h1.hsv
    hpv := h1.hpv
    base := h1.base
    stv := h1.stv }
  ·rcases h3 b h1.hb with h | h
   ·exact .inl h
   ·exact .inr h.1
  ·intro k hk
   rcases h3 k hk with h | h
   ·exact .inl h
   ·exact .inr ⟨h.1, by simpa using h.2⟩
 clear hcell hgb h1 h2 h3 hown hown2; have hpos : ((st.length : Int) + 1 == 0) = false := by simp; omega
 have hc2 : st.length ≤ cap := by omega
 unfold maxLen at hmx; go_enter Tryz.func128, Tryz.ntmps128; go_wp2; go_ret
 exact ⟨rfl, hpost⟩
end
end Go.Cf
